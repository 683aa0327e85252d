import JvmDerived
import JvmDerived.Pilot.@@N@@Statement
import JvmDerived.Pilot.@@N@@Code
set_option linter.unusedVariables false
set_option linter.unusedSimpArgs false
namespace Jvm.OwnW
open Sem ClassFile Op Lib Jvm.Free Jvm.Stand Jvm.LawKit Jvm.RoadKit Jvm.Free.XT
/-! ## a walk's fixed data, and what is asked of the rest of it -/
abbrev Cx : Type := Program × Launch × Env × Room × State × MethodId × Array Value × List Frame × Method × Code
abbrev Cx.p (x : Cx) : Program := x.1
abbrev Cx.l (x : Cx) : Launch := x.2.1
abbrev Cx.e (x : Cx) : Env := x.2.2.1
abbrev Cx.R (x : Cx) : Room := x.2.2.2.1
abbrev Cx.s (x : Cx) : State := x.2.2.2.2.1
abbrev Cx.m (x : Cx) : MethodId := x.2.2.2.2.2.1
abbrev Cx.args (x : Cx) : Array Value := x.2.2.2.2.2.2.1
abbrev Cx.below (x : Cx) : List Frame := x.2.2.2.2.2.2.2.1
abbrev Cx.meth (x : Cx) : Method := x.2.2.2.2.2.2.2.2.1
abbrev Cx.c (x : Cx) : Code := x.2.2.2.2.2.2.2.2.2
abbrev Sd (x : Cx) (T : State) (locs : List Loc) (k n : Nat) : Prop := Stand x.p x.l x.e x.R x.s x.m x.args x.below x.meth x.c T locs k n
/-- what is known of a walk of the method nm (of the class own) over the tables of Z -/
def Ok (x : Cx) (Z : State) (own nm : String) (bytes : ByteArray) (ml : Nat) (rt : Option FieldType) (R : Room) : Prop :=
  x.p.tables.exec = Jvm.exec ∧ x.c.code = bytes ∧ x.c.maxLocals = ml ∧ x.s.vm.findClass own = some x.m.cls ∧ x.meth.name = nm ∧ Z.Warmed39 x.s.vm ∧ x.meth.sig.returnType = rt ∧ x.meth.locks = false ∧ x.R = R
abbrev Post : Type := Option Value → Heap → Prop
def Done (x : Cx) (n0 : Nat) (Q : Post) (U : State) : Prop :=
  ∃ s₂ o, Steps x.p.tables x.e x.below U s₂ ∧ s₂.status = .running ∧ Ended s₂ x.below o ∧ ∃ v L, o = .returned v ∧ (Q v s₂.heap ∧ Fr n0 L) ∧ FrameEnd x.s o s₂ L x.R.cells x.R.slots
/-- from here (heap h; k cells and n slots made so far; the frame) the walk comes to its end, and Q holds of it -/
def WP (x : Cx) (n0 : Nat) (Q : Post) (h : Heap) (k n : Nat) (pc : Nat) (L : Array Slot) (S : List Value) : Prop :=
  ∀ T locs, Sd x T locs k n → T.heap = h → Fr n0 locs → Done x n0 Q (T.setTop (mkF x.m pc L S))
/-- a method's contract at one heap and one list of arguments -/
def Con (l : Launch) (Z : State) (y : MethodName) (bytes : ByteArray) (maxL : Nat) (ret : Option FieldType) (rm : Room) (as : Array Value) (h : Heap) (n0 : Nat) (Q : Post) (ws : List Jvm.Cond) : Prop :=
  MetFree l y (head1 (Jvm.Cond.code y bytes maxL ret :: ws) rm) (fun a U => a = as ∧ Z.Warmed39 U.vm ∧ U.heap = h) (fun _ _ _ _ _ => True) (fun _ U o U' => ∃ v L, o = .returned v ∧ (Q v U'.heap ∧ Fr n0 L) ∧ FrameEnd U o U' L rm.cells rm.slots)
theorem wd {ts : List Jvm.Cond} {a0 : Array Value} {Z : State} (hw : ∀ d ∈ ts, d.before a0 Z = true) (k : Nat) {d : Jvm.Cond} (h : ts[k]? = some d) : d.before a0 Z = true := hw d (List.mem_of_getElem? h)
theorem ne_new {h : Heap} {a b : Addr} (hb : b < h.size) (e : a = h.size) : b ≠ a := by rw [e]; exact Nat.ne_of_lt hb
theorem Fld_c {Z : State} {h : Heap} {a : Addr} {O n d : String} {v w : Value} (F : Fld Z h a O n d v) (e : v = w) : Fld Z h a O n d w := e ▸ F
theorem Sta_keep0 {Z : State} {h h' : Heap} {C n d : String} {v : Value} (F : Sta Z h C n d v) (K : Keep h h' []) : Sta Z h' C n d v := by
  obtain ⟨cf, i, k, f, st, cell, h1, h2, h3, h4, h5, r⟩ := F
  exact ⟨cf, i, k, f, st, cell, h1, h2, h3, h4, K.2.1 _ _ h5 nin0, r⟩
section Rules
variable {x : Cx} {Z : State} {own nm : String} {bytes : ByteArray} {ml : Nat} {rt : Option FieldType} {R : Room} {n0 : Nat} {Q : Post} {h : Heap} {k n : Nat} {pc pc' : Nat} {L L' : Array Slot} {S S' rest : List Value} {a0 : Array Value} {a : Addr} {v : Value}
theorem con_of_wp {l : Launch} {y : MethodName} {as : Array Value} {L0 : Array Slot} {ws : List Jvm.Cond} (pn : plainFor y = true) (ef : ∀ m, entryFrame m as ml = mkF m 0 L0 [])
    (H : ∀ x : Cx, x.l = l → Ok x Z y.cls y.name bytes ml rt R → WP x n0 Q h 0 0 0 L0 []) : Con l Z y bytes ml rt R as h n0 Q ws := by
  refine MetFree.of_bodySF pn hisR ?_
  intro p e s m args below meth c s₁ Bd hml0 hP hK
  obtain ⟨rfl, hZ, hh⟩ := hP
  have X0 : Stand p l e R s m args below meth c s₁ [] 0 0 := Stand.of_body Bd
  have e0 : s₁.heap = h := by rw [← hh, Bd.state]; rfl
  have ok : Ok (p, l, e, R, s, m, args, below, meth, c) Z y.cls y.name bytes ml rt R := ⟨Bd.exec, Bd.bytes, hml0, findClass_of_methodNamed Bd.named, (name_of_methodNamed Bd.named Bd.method).1, hZ, Bd.returns, Bd.notSynchronized, rfl⟩
  obtain ⟨s₂, o, h1, h2, h3, h4⟩ := H (p, l, e, R, s, m, args, below, meth, c) rfl ok s₁ [] X0 e0 (Fr.nil n0)
  exact ⟨s₂, o, castTop (ef m) h1, h2, h3, h4⟩
theorem wp_more {k' n' : Nat} (hk : k ≤ k') (hn : n ≤ n') (w : WP x n0 Q h k' n' pc L S) : WP x n0 Q h k n pc L S := fun T locs X e N => w T locs (X.more hk hn) e N
theorem wp_steps (st : ∀ T locs target, Sd x T locs k n → T.heap = h → Steps x.p.tables x.e x.below (T.setTop (mkF x.m pc' L' S')) target → Steps x.p.tables x.e x.below (T.setTop (mkF x.m pc L S)) target) (w : WP x n0 Q h k n pc' L' S') : WP x n0 Q h k n pc L S := fun T locs X e N => by
  obtain ⟨s₂, o, h1, r⟩ := w T locs X e N
  exact ⟨s₂, o, st T locs _ X e h1, r⟩
/-! ## returns -/
theorem wp_done {v' : Option Value} (ok : Ok x Z own nm bytes ml rt R) (hk : k ≤ R.cells) (hn : n ≤ R.slots) (hv : rt = none → v' = none) (hq : Q v' h)
    (st : ∀ T locs fs, Sd x T locs k n → (∀ (f : JFrame) (acts : List Action), f.method = x.m → f.locked = none → f.entered = [] → (doReturn x.e (T.setTop f) acts v').1 = T.setFrames fs) → Steps x.p.tables x.e x.below (T.setTop (mkF x.m pc L S)) (T.setFrames fs)) : WP x n0 Q h k n pc L S := fun T locs X e N => by
  obtain ⟨hx, hby, hml, hown, hnm, hZ, hrt, hlk, hR⟩ := ok
  have hlocks : x.meth.locks = false := hlk
  obtain ⟨fs, hr, hrun, hended, hW, hsame⟩ := X.leave (v := v') (fun q => hv (hrt.symm.trans q)) hlocks
  refine ⟨_, _, st T locs fs X hr, hrun, hended, _, locs, rfl, ⟨?_, N⟩, ⟨_, rfl⟩, hW, hsame.mono (by rw [hR]; exact hk) (by rw [hR]; exact hn)⟩
  show Q v' T.heap
  rw [e]; exact hq
theorem wp_retV (ok : Ok x Z own nm bytes ml none R) (hd : decode bytes pc = .ok (.return_, 1)) (hk : k ≤ R.cells) (hn : n ≤ R.slots) (hq : Q none h) : WP x n0 Q h k n pc L [] :=
  wp_done ok hk hn (fun _ => rfl) hq fun T locs fs X hr => X.returnOut ok.1 ok.2.2.2.2.2.2.1 (hb ok.2.1 hd) hr
theorem wp_retZ {z : Int32} {t : FieldType} (ok : Ok x Z own nm bytes ml (some t) R) (ht : t = .boolean ∨ t = .byte ∨ t = .char ∨ t = .short) (hd : decode bytes pc = .ok (.ireturn, 1)) (hk : k ≤ R.cells) (hn : n ≤ R.slots) (hq : Q (some (.int (nar t z))) h) : WP x n0 Q h k n pc L (.int z :: rest) :=
  wp_done ok hk hn (fun q => nomatch q) hq fun T locs fs X hr => retN X ok.1 ok.2.2.2.2.2.2.1 ht (hb ok.2.1 hd) hr
theorem wp_retI {z : Int32} (ok : Ok x Z own nm bytes ml (some .int) R) (hd : decode bytes pc = .ok (.ireturn, 1)) (hk : k ≤ R.cells) (hn : n ≤ R.slots) (hq : Q (some (.int z)) h) : WP x n0 Q h k n pc L (.int z :: rest) :=
  wp_done ok hk hn (fun q => nomatch q) hq fun T locs fs X hr => retOut X ok.1 ok.2.2.2.2.2.2.1 (w := .int z) rfl (Or.inl ⟨rfl, Or.inl rfl, z, rfl⟩) (hb ok.2.1 hd) hr
theorem wp_retJ {z : Int64} (ok : Ok x Z own nm bytes ml (some .long) R) (hd : decode bytes pc = .ok (.lreturn, 1)) (hk : k ≤ R.cells) (hn : n ≤ R.slots) (hq : Q (some (.long z)) h) : WP x n0 Q h k n pc L (.long z :: rest) :=
  wp_done ok hk hn (fun q => nomatch q) hq fun T locs fs X hr => retOut X ok.1 ok.2.2.2.2.2.2.1 (w := .long z) rfl (Or.inr (Or.inl ⟨rfl, rfl, z, rfl⟩)) (hb ok.2.1 hd) hr
theorem wp_retA {w : Value} {t : FieldType} (ok : Ok x Z own nm bytes ml (some t) R) (ht : t.isReference = true) (hw : w.isRef = true) (hd : decode bytes pc = .ok (.areturn, 1)) (hk : k ≤ R.cells) (hn : n ≤ R.slots) (hq : Q (some w) h) : WP x n0 Q h k n pc L [w] :=
  wp_done ok hk hn (fun q => nomatch q) hq fun T locs fs X hr => X.areturnOut ok.1 hw ok.2.2.2.2.2.2.1 ht (hb ok.2.1 hd) hr
/-! ## the heap -/
theorem wp_getF {O nf d : String} {index : Nat} (ok : Ok x Z own nm bytes ml rt R) (w : (Jvm.Cond.fieldLink own index O nf d).before a0 Z = true) (F : Fld Z h a O nf d v) (hd : decode bytes pc = .ok (.getfield index, 3)) (hw : WP x n0 Q h k n (pc + 3) L (v :: rest)) : WP x n0 Q h k n pc L (.ref a :: rest) := fun T locs X e N => by
  obtain ⟨T', X', e', st⟩ := getF X ok.1 ok.2.2.2.2.2.1 ok.2.2.2.1 (host := "") (Or.inl w) Via.refl e F (g := mkF x.m pc L (.ref a :: rest)) rfl rfl (hb ok.2.1 hd)
  obtain ⟨s₂, o, h1, r⟩ := hw T' locs X' e' N
  exact ⟨s₂, o, st _ h1, r⟩
theorem wp_getS {O nf d : String} {index : Nat} (ok : Ok x Z own nm bytes ml rt R) (w : (Jvm.Cond.fieldLink own index O nf d).before a0 Z = true) (F : Sta Z h O nf d v) (hd : decode bytes pc = .ok (.getstatic index, 3)) (hw : WP x n0 Q h k n (pc + 3) L (v :: S)) : WP x n0 Q h k n pc L S := fun T locs X e N => by
  obtain ⟨T', X', e', st⟩ := getS (host := "") X ok.1 ok.2.2.2.2.2.1 ok.2.2.2.1 w Via.refl e F (g := mkF x.m pc L S) rfl (hb ok.2.1 hd)
  obtain ⟨s₂, o, h1, r⟩ := hw T' locs X' e' N
  exact ⟨s₂, o, st _ h1, r⟩
theorem wp_putF {O nf d C : String} {index kk : Nat} {ty : FieldType} {old : Value} (ok : Ok x Z own nm bytes ml rt R) (w : (Jvm.Cond.fieldLink own index O nf d).before a0 Z = true) (F : Fld Z h a O nf d old) (E : Exa Z h a C)
    (Ly : (Jvm.Cond.lays C O nf d).before a0 Z = true ∨ ((Jvm.Cond.laysFinal C O nf d).before a0 Z = true ∧ own = O ∧ nm = "<init>")) (wi : (Jvm.Cond.instantiable C kk).before a0 Z = true) (hty : parseFieldDescriptor d = some ty) (hnw : narrow ty v = v) (hf : fits ty v = true) (hd : decode bytes pc = .ok (.putfield index, 3)) (ha : n0 ≤ a)
    (hw : ∀ h', Wr h h' a (Jvm.RoadKit.slotOf Z O nf d) v → WP x n0 Q h' k n (pc + 3) L rest) : WP x n0 Q h k n pc L (v :: .ref a :: rest) := fun T locs X e N => by
  obtain ⟨T', h', X', e', W, st⟩ := putF X ok.1 ok.2.2.2.2.2.1 ok.2.2.2.1 (host := "") (Or.inl w) Via.refl e F E (Ly.imp id fun q => ⟨q.1, q.2.1, ok.2.2.2.2.1.trans q.2.2⟩) wi hty hnw hf (g := mkF x.m pc L (v :: .ref a :: rest)) rfl rfl (hb ok.2.1 hd)
  obtain ⟨s₂, o, h1, r⟩ := hw h' W T' _ X' e' (Fr.snoc X' N ha)
  exact ⟨s₂, o, st _ h1, r⟩
theorem wp_new {C : String} {index sz : Nat} (ok : Ok x Z own nm bytes ml rt R) (w : (Jvm.Cond.classLink own index C).before a0 Z = true) (wi : (Jvm.Cond.instantiable C sz).before a0 Z = true) (wz : (Jvm.Cond.initialized C).before a0 Z = true) (hd : decode bytes pc = .ok (.new index, 3)) (hk : k + 1 ≤ R.cells) (hn : n + sz ≤ R.slots)
    (hw : ∀ h' a, a = h.size → Ext h h' → Exa Z h' a C → (∀ {O nf d : String} {ty : FieldType}, Laid Z a0 C O nf d → parseFieldDescriptor d = some ty → Fld Z h' a O nf d (defaultValue ty)) → WP x n0 Q h' (k + 1) (n + sz) (pc + 3) L (.ref a :: S)) : WP x n0 Q h k n pc L S := fun T locs X e N => by
  obtain ⟨T', h', X', e', E, A, D, -, st⟩ := newO X ok.1 ok.2.2.2.2.2.1 ok.2.2.2.1 w wi wz e (g := mkF x.m pc L S) rfl (hb ok.2.1 hd) (by rw [ok.2.2.2.2.2.2.2.2]; exact hk) (by rw [ok.2.2.2.2.2.2.2.2]; exact hn)
  obtain ⟨s₂, o, h1, r⟩ := hw h' h.size rfl E A D T' _ X' e' N
  exact ⟨s₂, o, st _ h1, r⟩
theorem wp_initO {index : Nat} (ok : Ok x Z own nm bytes ml rt R) (w1 : (Jvm.Cond.methodLink own index Lib.objectInit).before a0 Z = true) (w2 : (Jvm.Cond.instanceMethod Lib.objectInit).before a0 Z = true) (w3 : (Jvm.Cond.code Lib.objectInit ⟨#[0xb1]⟩ 1 none).before a0 Z = true) (hL : L.size = ml)
    (hd : decode bytes pc = .ok (.invokespecial index, 3)) (hf : 1 ≤ R.frames) (hl : (rest.map fun v => v.category).sum + 12 ≤ R.locals) (hw : WP x n0 Q h k n (pc + 3) L rest) : WP x n0 Q h k n pc L (.ref a :: rest) := fun T locs X e N => by
  obtain ⟨T', X', e', st⟩ := initO X ok.1 ok.2.2.2.2.2.1 ok.2.2.2.1 w1 w2 w3 e (g := mkF x.m pc L (.ref a :: rest)) rfl (by show L.size = _; rw [ok.2.2.1]; exact hL) rfl (hb ok.2.1 hd) (by rw [ok.2.2.2.2.2.2.2.2]; exact hf) (W := (rest.map fun v => v.category).sum) (by show 2 * 0 + _ ≤ _; omega) (by rw [ok.2.2.2.2.2.2.2.2]; exact hl)
  obtain ⟨s₂, o, h1, r⟩ := hw T' locs X' e' N
  exact ⟨s₂, o, st _ h1, r⟩
/-! ## calls by contract -/
theorem wp_static {y : MethodName} {cb : ByteArray} {cm : Nat} {cr : Option FieldType} {rm : Room} {index : Nat} {argsL : List Value} {Q' : Post} {ps : List FieldType} (ok : Ok x Z own nm bytes ml rt R) (w1 : (Jvm.Cond.methodLink own index y).before a0 Z = true) (w2 : (Jvm.Cond.static y).before a0 Z = true) (w3 : (Jvm.Cond.initialized y.cls).before a0 Z = true) (w4 : (Jvm.Cond.code y cb cm cr).before a0 Z = true)
    (hy : y.cls ≠ "java/lang/invoke/MethodHandle" ∧ y.cls ≠ "java/lang/invoke/VarHandle") (C : Con x.l Z y cb cm cr rm argsL.toArray h n0 Q' []) (pd : parseMethodDescriptor y.desc = some ⟨ps, cr⟩) (hlen : argsL.length = ps.length) (hst : S = argsL.reverse ++ rest) (hL : L.size = ml) (hd : decode bytes pc = .ok (.invokestatic index, 3))
    (hf : rm.frames + 1 ≤ R.frames) (hl : (rest.map fun v => v.category).sum + (cm + 11) + rm.locals ≤ R.locals) (hk : k + rm.cells ≤ R.cells) (hn : n + rm.slots ≤ R.slots)
    (hw : ∀ v h', Q' v h' → WP x n0 Q h' (k + rm.cells) (n + rm.slots) (pc + 3) L (v.toList ++ rest)) : WP x n0 Q h k n pc L S := fun T locs X e N => by
  have hZ := ok.2.2.2.2.2.1
  have hR := ok.2.2.2.2.2.2.2.2
  obtain ⟨v, _, ⟨T', L2, k2, n2⟩, -, X', ⟨Lc, hQ, l1, y1, z1⟩, st⟩ := Jvm.LawKit.callS X ok.1 (y := y) ok.2.2.2.1 (mvT hZ w1) (mvT hZ w2) (mvT hZ w3) (mvT hZ w4) hy (backOf (W := (rest.map fun v => v.category).sum) (Q := fun v h L => Q' v h ∧ Fr n0 L) C hZ w4 w3 (by rw [hR]; exact hf) (by rw [hR]; exact hl)) (g := mkF x.m pc L S) rfl (by show L.size = _; rw [ok.2.2.1]; exact hL) (argsL := argsL) (rest := rest) (lenOf pd hlen) hst (by show 2 * 0 + _ ≤ _; omega) (hb ok.2.1 hd) (fun _ _ => ⟨rfl, e, by rw [hR]; exact hk, by rw [hR]; exact hn⟩)
  dsimp only [Pt.U, Pt.locs, Pt.cells, Pt.slots] at X' l1 y1 z1 st hQ
  subst l1 y1 z1
  obtain ⟨s₂, o, h1, r⟩ := hw v _ hQ.1 T' _ X' rfl (Fr.app N hQ.2)
  exact ⟨s₂, o, st _ h1, r⟩
theorem wp_special {y : MethodName} {cb : ByteArray} {cm : Nat} {rm : Room} {index : Nat} {argsL : List Value} {Q' : Post} {ps : List FieldType} (ok : Ok x Z own nm bytes ml rt R) (hy1 : y.name = "<init>") (w1 : (Jvm.Cond.methodLink own index y).before a0 Z = true) (w2 : (Jvm.Cond.instanceMethod y).before a0 Z = true) (w3 : (Jvm.Cond.initialized y.cls).before a0 Z = true) (w4 : (Jvm.Cond.code y cb cm none).before a0 Z = true)
    (hy : y.cls ≠ "java/lang/invoke/MethodHandle" ∧ y.cls ≠ "java/lang/invoke/VarHandle") (C : Con x.l Z y cb cm none rm (Value.ref a :: argsL).toArray h n0 Q' []) (pd : parseMethodDescriptor y.desc = some ⟨ps, none⟩) (hlen : argsL.length = ps.length) (hst : S = argsL.reverse ++ .ref a :: rest) (hL : L.size = ml) (hd : decode bytes pc = .ok (.invokespecial index, 3))
    (hf : rm.frames + 1 ≤ R.frames) (hl : (rest.map fun v => v.category).sum + (cm + 11) + rm.locals ≤ R.locals) (hk : k + rm.cells ≤ R.cells) (hn : n + rm.slots ≤ R.slots)
    (hw : ∀ v h', Q' v h' → WP x n0 Q h' (k + rm.cells) (n + rm.slots) (pc + 3) L (v.toList ++ rest)) : WP x n0 Q h k n pc L S := fun T locs X e N => by
  have hZ := ok.2.2.2.2.2.1
  have hR := ok.2.2.2.2.2.2.2.2
  obtain ⟨v, _, ⟨T', L2, k2, n2⟩, -, X', ⟨Lc, hQ, l1, y1, z1⟩, st⟩ := X.specialBack ok.1 (y := y) hy1 ok.2.2.2.1 (mvT hZ w1) (mvT hZ w2) (mvT hZ w4) hy (backOf (W := (rest.map fun v => v.category).sum) (Q := fun v h L => Q' v h ∧ Fr n0 L) C hZ w4 w3 (by rw [hR]; exact hf) (by rw [hR]; exact hl)) (g := mkF x.m pc L S) rfl (by show L.size = _; rw [ok.2.2.1]; exact hL) (Steps.refl _) (a := a) (argsL := argsL) (rest := rest) (lenOf pd hlen) hst (by show 2 * 0 + _ ≤ _; omega) (hb ok.2.1 hd) (fun _ _ => ⟨rfl, e, by rw [hR]; exact hk, by rw [hR]; exact hn⟩)
  dsimp only [Pt.U, Pt.locs, Pt.cells, Pt.slots] at X' l1 y1 z1 st hQ
  subst l1 y1 z1
  obtain ⟨s₂, o, h1, r⟩ := hw v _ hQ.1 T' _ X' rfl (Fr.app N hQ.2)
  exact ⟨s₂, o, st.trans h1, r⟩
theorem wp_virtual {y : MethodName} {cb : ByteArray} {cm : Nat} {cr : Option FieldType} {rm : Room} {index : Nat} {argsL : List Value} {Q' : Post} {ps : List FieldType} {C : String} (ok : Ok x Z own nm bytes ml rt R) (w1 : (Jvm.Cond.methodLink own index y).before a0 Z = true) (w5 : (Jvm.Cond.declares y).before a0 Z = true) (w6 : (Jvm.Cond.selects C y y).before a0 Z = true) (w2 : (Jvm.Cond.instanceMethod y).before a0 Z = true) (w3 : (Jvm.Cond.initialized y.cls).before a0 Z = true) (w4 : (Jvm.Cond.code y cb cm cr).before a0 Z = true)
    (hy : y.cls ≠ "java/lang/invoke/MethodHandle" ∧ y.cls ≠ "java/lang/invoke/VarHandle") (E : Exa Z h a C) (Cn : Con x.l Z y cb cm cr rm (Value.ref a :: argsL).toArray h n0 Q' []) (pd : parseMethodDescriptor y.desc = some ⟨ps, cr⟩) (hlen : argsL.length = ps.length) (hst : S = argsL.reverse ++ .ref a :: rest) (hL : L.size = ml) (hd : decode bytes pc = .ok (.invokevirtual index, 3))
    (hf : rm.frames + 1 ≤ R.frames) (hl : (rest.map fun v => v.category).sum + (cm + 11) + rm.locals ≤ R.locals) (hk : k + rm.cells ≤ R.cells) (hn : n + rm.slots ≤ R.slots)
    (hw : ∀ v h', Q' v h' → WP x n0 Q h' (k + rm.cells) (n + rm.slots) (pc + 3) L (v.toList ++ rest)) : WP x n0 Q h k n pc L S := fun T locs X e N => by
  have hZ := ok.2.2.2.2.2.1
  have hR := ok.2.2.2.2.2.2.2.2
  obtain ⟨cq, kq, qa, qb, qc⟩ := isOf (T := T) (s := x.s) hZ e E
  obtain ⟨v, _, ⟨T', L2, k2, n2⟩, -, X', ⟨Lc, hQ, l1, y1, z1⟩, st⟩ := X.virtualBack ok.1 (y := y) (z := y) ok.2.2.2.1 (mvT hZ w1) (mvT hZ w5) (notFace_of_selects (args := #[]) (mvT hZ w6)) (mvT hZ w6) (mvT hZ w2) hy (backOf (W := (rest.map fun v => v.category).sum) (Q := fun v h L => Q' v h ∧ Fr n0 L) Cn hZ w4 w3 (by rw [hR]; exact hf) (by rw [hR]; exact hl)) qa qc (g := mkF x.m pc L S) rfl (by show L.size = _; rw [ok.2.2.1]; exact hL) (Steps.refl _) (argsL := argsL) (rest := rest) (lenOf pd hlen) hst (by show 2 * 0 + _ ≤ _; omega) (hb ok.2.1 hd) (fun _ _ => ⟨rfl, e, by rw [hR]; exact hk, by rw [hR]; exact hn⟩)
  dsimp only [Pt.U, Pt.locs, Pt.cells, Pt.slots] at X' l1 y1 z1 st hQ
  subst l1 y1 z1
  obtain ⟨s₂, o, h1, r⟩ := hw v _ hQ.1 T' _ X' rfl (Fr.app N hQ.2)
  exact ⟨s₂, o, st.trans h1, r⟩
/-! ## arrays -/
theorem wp_newA {aty : ArrayType} {z : Int32} {cap : Nat} (ok : Ok x Z own nm bytes ml rt R) (w : (Jvm.Cond.arrayClass (newarray.typeOf aty)).before a0 Z = true) (hd : decode bytes pc = .ok (.newarray aty, 2)) (hz : ¬ z < 0) (hcap : z.toNatClampNeg ≤ cap) (hb8 : cap * 8 ≤ 536870912) (hk : k + 1 ≤ R.cells) (hn : n + cap ≤ R.slots)
    (hw : ∀ h' a cA, a = h.size → Ext h h' → Arr Z h' a (newA cA (newarray.typeOf aty) z) (newarray.typeOf aty) → WP x n0 Q h' (k + 1) (n + cap) (pc + 2) L (.ref a :: rest)) : WP x n0 Q h k n pc L (.int z :: rest) := fun T locs X e N => by
  obtain ⟨T', h', cA, X', e', E, A, st⟩ := newP X ok.1 ok.2.2.2.2.2.1 w e (g := mkF x.m pc L (.int z :: rest)) rfl (hb ok.2.1 hd) rfl hz hcap hb8 (by rw [ok.2.2.2.2.2.2.2.2]; exact hk) (by rw [ok.2.2.2.2.2.2.2.2]; exact hn)
  obtain ⟨s₂, o, h1, r⟩ := hw h' _ cA rfl E A T' _ X' e' N
  exact ⟨s₂, o, st _ h1, r⟩
theorem wp_stI {cl : Cell} {j z : Int32} (ok : Ok x Z own nm bytes ml rt R) (A : Arr Z h a cl .int) (hj : ¬ (j < 0 ∨ cl.slots.size ≤ j.toNatClampNeg)) (hd : decode bytes pc = .ok (.iastore, 1)) (ha : n0 ≤ a)
    (hw : ∀ h', Wr h h' a j.toNatClampNeg (.int z) → WP x n0 Q h' k n (pc + 1) L rest) : WP x n0 Q h k n pc L (.int z :: .int j :: .ref a :: rest) := fun T locs X e N => by
  obtain ⟨T', h', X', e', W, st⟩ := stI X ok.1 ok.2.2.2.2.2.1 e A hj (g := mkF x.m pc L (.int z :: .int j :: .ref a :: rest)) rfl rfl (hb ok.2.1 hd)
  obtain ⟨s₂, o, h1, r⟩ := hw h' W T' _ X' e' (Fr.snoc X' N ha)
  exact ⟨s₂, o, st _ h1, r⟩
theorem wp_stJ {cl : Cell} {j : Int32} {z : Int64} (ok : Ok x Z own nm bytes ml rt R) (A : Arr Z h a cl .long) (hj : ¬ (j < 0 ∨ cl.slots.size ≤ j.toNatClampNeg)) (hd : decode bytes pc = .ok (.lastore, 1)) (ha : n0 ≤ a)
    (hw : ∀ h', Wr h h' a j.toNatClampNeg (.long z) → WP x n0 Q h' k n (pc + 1) L rest) : WP x n0 Q h k n pc L (.long z :: .int j :: .ref a :: rest) := fun T locs X e N => by
  obtain ⟨T', h', X', e', W, st⟩ := stJ X ok.1 ok.2.2.2.2.2.1 e A hj (g := mkF x.m pc L (.long z :: .int j :: .ref a :: rest)) rfl rfl (hb ok.2.1 hd)
  obtain ⟨s₂, o, h1, r⟩ := hw h' W T' _ X' e' (Fr.snoc X' N ha)
  exact ⟨s₂, o, st _ h1, r⟩
theorem wp_ldI {cl : Cell} {j : Int32} (ok : Ok x Z own nm bytes ml rt R) (A : Arr Z h a cl .int) (hj : ¬ (j < 0 ∨ cl.slots.size ≤ j.toNatClampNeg)) (hv : cl.slots[j.toNatClampNeg]? = some v) (hd : decode bytes pc = .ok (.iaload, 1)) (hw : WP x n0 Q h k n (pc + 1) L (v :: rest)) : WP x n0 Q h k n pc L (.int j :: .ref a :: rest) :=
  wp_steps (fun T locs target X e hr => X.iaload ok.1 (by rw [e]; exact A.1) (State.isArrayOf_alike ok.2.2.2.2.2.1.alike A.2.1) A.2.2 hj hv (g := mkF x.m pc L (.int j :: .ref a :: rest)) rfl rfl (hb ok.2.1 hd) target hr) hw
theorem wp_ldJ {cl : Cell} {j : Int32} (ok : Ok x Z own nm bytes ml rt R) (A : Arr Z h a cl .long) (hj : ¬ (j < 0 ∨ cl.slots.size ≤ j.toNatClampNeg)) (hv : cl.slots[j.toNatClampNeg]? = some v) (hd : decode bytes pc = .ok (.laload, 1)) (hw : WP x n0 Q h k n (pc + 1) L (v :: rest)) : WP x n0 Q h k n pc L (.int j :: .ref a :: rest) :=
  wp_steps (fun T locs target X e hr => X.laload ok.1 (by rw [e]; exact A.1) (State.isArrayOf_alike ok.2.2.2.2.2.1.alike A.2.1) A.2.2 hj hv (g := mkF x.m pc L (.int j :: .ref a :: rest)) rfl rfl (hb ok.2.1 hd) target hr) hw
theorem wp_ldB {cl : Cell} {j : Int32} (ok : Ok x Z own nm bytes ml rt R) (A : Arr Z h a cl .byte) (hj : ¬ (j < 0 ∨ cl.slots.size ≤ j.toNatClampNeg)) (hv : cl.slots[j.toNatClampNeg]? = some v) (hd : decode bytes pc = .ok (.baload, 1)) (hw : WP x n0 Q h k n (pc + 1) L (v :: rest)) : WP x n0 Q h k n pc L (.int j :: .ref a :: rest) :=
  wp_steps (fun T locs target X e hr => X.baloadBytes ok.1 (by rw [e]; exact A.1) (State.isArrayOf_alike ok.2.2.2.2.2.1.alike A.2.1) A.2.2 hj hv (g := mkF x.m pc L (.int j :: .ref a :: rest)) rfl rfl (hb ok.2.1 hd) target hr) hw
theorem wp_ldZ {cl : Cell} {j : Int32} (ok : Ok x Z own nm bytes ml rt R) (A : Arr Z h a cl .boolean) (hj : ¬ (j < 0 ∨ cl.slots.size ≤ j.toNatClampNeg)) (hv : cl.slots[j.toNatClampNeg]? = some v) (hd : decode bytes pc = .ok (.baload, 1)) (hw : WP x n0 Q h k n (pc + 1) L (v :: rest)) : WP x n0 Q h k n pc L (.int j :: .ref a :: rest) :=
  wp_steps (fun T locs target X e hr => X.baloadBooleans ok.1 (by rw [e]; exact A.1) (State.isArrayOf_alike ok.2.2.2.2.2.1.alike A.2.1) A.2.2 hj hv (g := mkF x.m pc L (.int j :: .ref a :: rest)) rfl rfl (hb ok.2.1 hd) target hr) hw
theorem wp_len {cl : Cell} {ty : FieldType} (ok : Ok x Z own nm bytes ml rt R) (A : Arr Z h a cl ty) (hd : decode bytes pc = .ok (.arraylength, 1)) (hw : WP x n0 Q h k n (pc + 1) L (.int cl.slots.size.toInt32 :: rest)) : WP x n0 Q h k n pc L (.ref a :: rest) :=
  wp_steps (fun T locs target X e hr => X.arraylength ok.1 (by rw [e]; exact A.1) (State.isArrayOf_alike ok.2.2.2.2.2.1.alike A.2.1) (g := mkF x.m pc L (.ref a :: rest)) rfl rfl (hb ok.2.1 hd) target hr) hw
end Rules
end Jvm.OwnW
namespace Jvm.OwnW
open Jvm.RoadKit
theorem c_lmod (x y : Int64) (d : Int) (hy : y.toInt = d) : (0 ≤ x.toInt → (x % y).toInt = x.toInt % d) ∧ (x.toInt < 0 → (x % y).toInt = -((-x.toInt) % d)) := by rw [← lrem_mod]; exact c_lrem x y d hy
theorem x_ladd {x y : Int64} (h1 : -9223372036854775808 ≤ x.toInt + y.toInt) (h2 : x.toInt + y.toInt < 9223372036854775808) : (x + y).toInt = x.toInt + y.toInt := by
  have := c_ladd x y; have := (x + y).toInt_lt; have := (x + y).le_toInt; omega
theorem x_lsub {x y : Int64} (h1 : -9223372036854775808 ≤ x.toInt - y.toInt) (h2 : x.toInt - y.toInt < 9223372036854775808) : (x - y).toInt = x.toInt - y.toInt := by
  have := c_lsub x y; have := (x - y).toInt_lt; have := (x - y).le_toInt; omega
theorem x_lmul {x y : Int64} (h1 : -9223372036854775808 ≤ x.toInt * y.toInt) (h2 : x.toInt * y.toInt < 9223372036854775808) : (x * y).toInt = x.toInt * y.toInt := by
  have q := c_lmul x y; have := (x * y).toInt_lt; have := (x * y).le_toInt
  generalize x.toInt * y.toInt = p at *; omega
theorem x_iadd {x y : Int32} (h1 : -2147483648 ≤ x.toInt + y.toInt) (h2 : x.toInt + y.toInt < 2147483648) : (x + y).toInt = x.toInt + y.toInt := by
  have := c_iadd x y; have := (x + y).toInt_lt; have := (x + y).le_toInt; omega
theorem x_isub {x y : Int32} (h1 : -2147483648 ≤ x.toInt - y.toInt) (h2 : x.toInt - y.toInt < 2147483648) : (x - y).toInt = x.toInt - y.toInt := by
  have := c_isub x y; have := (x - y).toInt_lt; have := (x - y).le_toInt; omega
theorem x_imul {x y : Int32} (h1 : -2147483648 ≤ x.toInt * y.toInt) (h2 : x.toInt * y.toInt < 2147483648) : (x * y).toInt = x.toInt * y.toInt := by
  have q := c_imul x y; have := (x * y).toInt_lt; have := (x * y).le_toInt
  generalize x.toInt * y.toInt = p at *; omega
theorem nar01 {z : Int32} (h : z = 0 ∨ z = 1) : nar .boolean z = z := by rcases h with rfl | rfl <;> rfl
end Jvm.OwnW
namespace Jvm.OwnW
open Sem ClassFile Op Lib Jvm.Free Jvm.Stand Jvm.LawKit Jvm.RoadKit Jvm.Free.XT
/-! ## plain steps, by evaluation: a block of instructions from a frame to a frame, with the props that it asks (a branch's direction, a divisor) -/
def ush (x y : Int32) : Int32 := (x.toUInt32 >>> (y &&& 31).toUInt32).toInt32
def ushL (x : Int64) (y : Int32) : Int64 := (x.toUInt64 >>> (y &&& 63).toInt64.toUInt64).toInt64
theorem c_ush (x q : Int32) (k : Nat) (hk : q.toBitVec.toNat % 32 = k) (h0 : 0 < k) : (ush x q).toInt = (x.toInt % 4294967296) / (2 ^ k : Nat) := c_iushr x q k hk h0
theorem c_ushL (x : Int64) (q : Int32) (k : Nat) (hk : q.toBitVec.toNat % 64 = k) (h0 : 0 < k) : (ushL x q).toInt = (x.toInt % 18446744073709551616) / (2 ^ k : Nat) := c_lushr x q k hk h0
abbrev Res : Type := Option (List Prop × Nat × Array Slot × List Value)
def bin32 (f : Int32 → Int32 → Int32) (pc : Nat) (L : Array Slot) : List Value → Res
  | .int y :: .int z :: r => some ([], pc + 1, L, .int (f z y) :: r)
  | _ => none
def bin64 (f : Int64 → Int64 → Int64) (pc : Nat) (L : Array Slot) : List Value → Res
  | .long y :: .long z :: r => some ([], pc + 1, L, .long (f z y) :: r)
  | _ => none
def sh64 (f : Int64 → Int32 → Int64) (pc : Nat) (L : Array Slot) : List Value → Res
  | .int y :: .long z :: r => some ([], pc + 1, L, .long (f z y) :: r)
  | _ => none
def un32 (f : Int32 → Value) (pc : Nat) (L : Array Slot) : List Value → Res
  | .int z :: r => some ([], pc + 1, L, f z :: r)
  | _ => none
def un64 (f : Int64 → Value) (pc : Nat) (L : Array Slot) : List Value → Res
  | .long z :: r => some ([], pc + 1, L, f z :: r)
  | _ => none
def ldK (ok : Value → Bool) (i pc' : Nat) (L : Array Slot) (S : List Value) : Res :=
  match L[i]? with
  | some (.val v) => if ok v = true then some ([], pc', L, v :: S) else none
  | _ => none
def stK (ok : Value → Bool) (i pc' : Nat) (L : Array Slot) : List Value → Res
  | v :: r => if ok v = true then (match storeLocals L i v with | some L' => some ([], pc', L', r) | none => none) else none
  | [] => none
def isI : Value → Bool | .int _ => true | _ => false
def isJ : Value → Bool | .long _ => true | _ => false
def constI : Option Value → Option Int32 | some (.int z) => some z | _ => none
def constJ : Option Value → Option Int64 | some (.long z) => some z | _ => none
def look (K : List (Nat × Value)) (i : Nat) : Option Value := match K with
  | [] => none
  | (j, v) :: r => if j = i then some v else look r i
def jump (pc : Nat) (o : Int) : Option Nat := if 0 ≤ (pc : Int) + o then some ((pc : Int) + o).toNat else none
def br (p : Prop) (b : Bool) (pc : Nat) (o : Int) (L : Array Slot) (S : List Value) : Res :=
  if b = true then (match jump pc o with | some q => some ([p], q, L, S) | none => none) else some ([p], pc + 3, L, S)
def stp (K : List (Nat × Value)) (b : Bool) (i : Instr) (pc : Nat) (L : Array Slot) (S : List Value) : Res :=
  match i with
  | .iconst z => some ([], pc + 1, L, .int (Int32.ofInt z) :: S)
  | .bipush z => some ([], pc + 2, L, .int (Int8.ofInt z).toInt32 :: S)
  | .sipush z => some ([], pc + 3, L, .int (Int16.ofInt z).toInt32 :: S)
  | .lconst z => some ([], pc + 1, L, .long (Int64.ofNat z) :: S)
  | .aconst_null => some ([], pc + 1, L, .null :: S)
  | .ldc j => (match constI (look K j) with | some z => some ([], pc + 2, L, .int z :: S) | none => none)
  | .ldc2_w j => (match constJ (look K j) with | some z => some ([], pc + 3, L, .long z :: S) | none => none)
  | .iload_n j => ldK isI j.val (pc + 1) L S
  | .iload j => ldK isI j (pc + 2) L S
  | .lload_n j => ldK isJ j.val (pc + 1) L S
  | .lload j => ldK isJ j (pc + 2) L S
  | .aload_n j => ldK Value.isRef j.val (pc + 1) L S
  | .aload j => ldK Value.isRef j (pc + 2) L S
  | .istore_n j => stK isI j.val (pc + 1) L S
  | .istore j => stK isI j (pc + 2) L S
  | .lstore_n j => stK isJ j.val (pc + 1) L S
  | .lstore j => stK isJ j (pc + 2) L S
  | .astore_n j => stK Value.isRef j.val (pc + 1) L S
  | .astore j => stK Value.isRef j (pc + 2) L S
  | .iadd => bin32 (fun z y => z + y) pc L S
  | .isub => bin32 (fun z y => z - y) pc L S
  | .imul => bin32 (fun z y => z * y) pc L S
  | .iand => bin32 (fun z y => z &&& y) pc L S
  | .ior => bin32 (fun z y => z ||| y) pc L S
  | .ixor => bin32 (fun z y => z ^^^ y) pc L S
  | .ishl => bin32 (fun z y => z <<< (y &&& 31)) pc L S
  | .ishr => bin32 (fun z y => z >>> (y &&& 31)) pc L S
  | .iushr => bin32 (fun z y => ush z y) pc L S
  | .ladd => bin64 (fun z y => z + y) pc L S
  | .lsub => bin64 (fun z y => z - y) pc L S
  | .lmul => bin64 (fun z y => z * y) pc L S
  | .land => bin64 (fun z y => z &&& y) pc L S
  | .lor => bin64 (fun z y => z ||| y) pc L S
  | .lxor => bin64 (fun z y => z ^^^ y) pc L S
  | .lshl => sh64 (fun z y => z <<< (y &&& 63).toInt64) pc L S
  | .lshr => sh64 (fun z y => z >>> (y &&& 63).toInt64) pc L S
  | .lushr => sh64 (fun z y => ushL z y) pc L S
  | .ineg => un32 (fun z => .int (-z)) pc L S
  | .lneg => un64 (fun z => .long (-z)) pc L S
  | .i2l => un32 (fun z => .long z.toInt64) pc L S
  | .l2i => un64 (fun z => .int z.toInt32) pc L S
  | .i2b => un32 (fun z => .int z.toInt8.toInt32) pc L S
  | .i2c => un32 (fun z => .int z.toUInt32.toUInt16.toUInt32.toInt32) pc L S
  | .i2s => un32 (fun z => .int z.toInt16.toInt32) pc L S
  | .idiv => (match S with | .int y :: .int z :: r => some ([y ≠ 0], pc + 1, L, .int (z / y) :: r) | _ => none)
  | .irem => (match S with | .int y :: .int z :: r => some ([y ≠ 0], pc + 1, L, .int (z % y) :: r) | _ => none)
  | .ldiv => (match S with | .long y :: .long z :: r => some ([y ≠ 0], pc + 1, L, .long (z / y) :: r) | _ => none)
  | .lrem => (match S with | .long y :: .long z :: r => some ([y ≠ 0], pc + 1, L, .long (z % y) :: r) | _ => none)
  | .lcmp => (match S with | .long y :: .long z :: r => some ([], pc + 1, L, .int (cmpL z y) :: r) | _ => none)
  | .pop => (match S with | v :: r => if v.category = 1 then some ([], pc + 1, L, r) else none | _ => none)
  | .dup => (match S with | v :: r => if v.category = 1 then some ([], pc + 1, L, v :: v :: r) else none | _ => none)
  | .dup_x1 => (match S with | v :: w :: r => if v.category = 1 ∧ w.category = 1 then some ([], pc + 1, L, v :: w :: v :: r) else none | _ => none)
  | .dup2 => (match S with | v :: w :: r => if v.category = 1 ∧ w.category = 1 then some ([], pc + 1, L, v :: w :: v :: w :: r) else none | _ => none)
  | .iinc j c => (match L[j]? with | some (.val (.int z)) => (match storeLocals L j (.int (z + Int32.ofInt c)) with | some L' => some ([], pc + 3, L', S) | none => none) | _ => none)
  | .goto o => (match jump pc o with | some q => some ([], q, L, S) | none => none)
  | .ifCond cd o => (match S with | .int z :: r => br (ifCond.holds cd z = b) b pc o L r | _ => none)
  | .if_icmp cd o => (match S with | .int y :: .int z :: r => br (if_icmp.holds cd z y = b) b pc o L r | _ => none)
  | .ifnull o => (match S with | .null :: r => if b = true then br True b pc o L r else none | .ref _ :: r => if b = true then none else br True b pc o L r | _ => none)
  | .ifnonnull o => (match S with | .null :: r => if b = true then none else br True b pc o L r | .ref _ :: r => if b = true then br True b pc o L r else none | _ => none)
  | _ => none
def ilen : Instr → Nat
  | .bipush _ => 2 | .ldc _ => 2 | .iload _ => 2 | .lload _ => 2 | .aload _ => 2 | .istore _ => 2 | .lstore _ => 2 | .astore _ => 2
  | .sipush _ => 3 | .ldc2_w _ => 3 | .iinc _ _ => 3 | .goto _ => 3 | .ifCond _ _ => 3 | .if_icmp _ _ => 3 | .ifnull _ => 3 | .ifnonnull _ => 3
  | _ => 1
def runL (K : List (Nat × Value)) : List (Nat × Instr × Bool) → Nat → Array Slot → List Value → Res
  | [], pc, L, S => some ([], pc, L, S)
  | (q, i, b) :: r, pc, L, S => if q = pc then (match stp K b i pc L S with
      | none => none
      | some (ps, pc', L', S') => match runL K r pc' L' S' with
        | none => none
        | some (ps', t) => some (ps ++ ps', t)) else none
def decs (bytes : ByteArray) (B : List (Nat × Instr × Bool)) : Bool := B.all fun q => decide (decode bytes q.1 = .ok (q.2.1, ilen q.2.1))
def allP : List Prop → Prop
  | [] => True
  | p :: r => p ∧ allP r
theorem allP_append {ps qs : List Prop} (h : allP (ps ++ qs)) : allP ps ∧ allP qs := by
  induction ps with
  | nil => exact ⟨trivial, h⟩
  | cons p r ih => exact ⟨⟨h.1, (ih h.2).1⟩, (ih h.2).2⟩
def Konst (Z : State) (a0 : Array Value) (own : String) : List (Nat × Value) → Prop
  | [] => True
  | (i, v) :: r => ((∃ z, v = .int z ∧ (Jvm.Cond.constant own i z).before a0 Z = true) ∨ (∃ z, v = .long z ∧ (Jvm.Cond.constantLong own i z).before a0 Z = true)) ∧ Konst Z a0 own r
theorem look_spec {Z : State} {a0 : Array Value} {own : String} {K : List (Nat × Value)} (hK : Konst Z a0 own K) {i : Nat} {v : Value} (h : look K i = some v) : (∃ z, v = .int z ∧ (Jvm.Cond.constant own i z).before a0 Z = true) ∨ (∃ z, v = .long z ∧ (Jvm.Cond.constantLong own i z).before a0 Z = true) := by
  induction K with
  | nil => cases h
  | cons q r ih =>
    obtain ⟨j, w⟩ := q
    simp only [look] at h
    split at h
    · rename_i e; subst e; cases h; exact hK.1
    · exact ih hK.2 h
theorem constI_spec {o : Option Value} {z : Int32} (h : constI o = some z) : o = some (.int z) := by
  cases o with
  | none => cases h
  | some v => cases v <;> simp [constI] at h; rw [h]
theorem constJ_spec {o : Option Value} {z : Int64} (h : constJ o = some z) : o = some (.long z) := by
  cases o with
  | none => cases h
  | some v => cases v <;> simp [constJ] at h; rw [h]
theorem ldK_spec {ok : Value → Bool} {i q : Nat} {L : Array Slot} {S : List Value} {ps : List Prop} {pc' : Nat} {L' : Array Slot} {S' : List Value} (h : ldK ok i q L S = some (ps, pc', L', S')) : ∃ v, L[i]? = some (.val v) ∧ ok v = true ∧ pc' = q ∧ L' = L ∧ S' = v :: S := by
  unfold ldK at h
  split at h
  · split at h
    · rename_i v e1 e2; cases h; exact ⟨v, e1, e2, rfl, rfl, rfl⟩
    · cases h
  · cases h
theorem stK_spec {ok : Value → Bool} {i q : Nat} {L : Array Slot} {S : List Value} {ps : List Prop} {pc' : Nat} {L' : Array Slot} {S' : List Value} (h : stK ok i q L S = some (ps, pc', L', S')) : ∃ v, S = v :: S' ∧ ok v = true ∧ pc' = q ∧ storeLocals L i v = some L' := by
  cases S with
  | nil => cases h
  | cons v r =>
    simp only [stK] at h
    split at h
    · split at h
      · rename_i e1 _ _ e2; cases h; exact ⟨v, rfl, e1, rfl, e2⟩
      · cases h
    · cases h
theorem isI_spec {v : Value} (h : isI v = true) : ∃ z, v = .int z := by cases v <;> simp [isI] at h ⊢
theorem isJ_spec {v : Value} (h : isJ v = true) : ∃ z, v = .long z := by cases v <;> simp [isJ] at h ⊢
theorem bin32_spec {f : Int32 → Int32 → Int32} {pc : Nat} {L : Array Slot} {S : List Value} {ps : List Prop} {pc' : Nat} {L' : Array Slot} {S' : List Value} (h : bin32 f pc L S = some (ps, pc', L', S')) : ∃ z y r, S = .int y :: .int z :: r ∧ pc' = pc + 1 ∧ L' = L ∧ S' = .int (f z y) :: r := by
  unfold bin32 at h; split at h
  · cases h; exact ⟨_, _, _, rfl, rfl, rfl, rfl⟩
  · cases h
theorem bin64_spec {f : Int64 → Int64 → Int64} {pc : Nat} {L : Array Slot} {S : List Value} {ps : List Prop} {pc' : Nat} {L' : Array Slot} {S' : List Value} (h : bin64 f pc L S = some (ps, pc', L', S')) : ∃ z y r, S = .long y :: .long z :: r ∧ pc' = pc + 1 ∧ L' = L ∧ S' = .long (f z y) :: r := by
  unfold bin64 at h; split at h
  · cases h; exact ⟨_, _, _, rfl, rfl, rfl, rfl⟩
  · cases h
theorem sh64_spec {f : Int64 → Int32 → Int64} {pc : Nat} {L : Array Slot} {S : List Value} {ps : List Prop} {pc' : Nat} {L' : Array Slot} {S' : List Value} (h : sh64 f pc L S = some (ps, pc', L', S')) : ∃ z y r, S = .int y :: .long z :: r ∧ pc' = pc + 1 ∧ L' = L ∧ S' = .long (f z y) :: r := by
  unfold sh64 at h; split at h
  · cases h; exact ⟨_, _, _, rfl, rfl, rfl, rfl⟩
  · cases h
theorem un32_spec {f : Int32 → Value} {pc : Nat} {L : Array Slot} {S : List Value} {ps : List Prop} {pc' : Nat} {L' : Array Slot} {S' : List Value} (h : un32 f pc L S = some (ps, pc', L', S')) : ∃ z r, S = .int z :: r ∧ pc' = pc + 1 ∧ L' = L ∧ S' = f z :: r := by
  unfold un32 at h; split at h
  · cases h; exact ⟨_, _, rfl, rfl, rfl, rfl⟩
  · cases h
theorem un64_spec {f : Int64 → Value} {pc : Nat} {L : Array Slot} {S : List Value} {ps : List Prop} {pc' : Nat} {L' : Array Slot} {S' : List Value} (h : un64 f pc L S = some (ps, pc', L', S')) : ∃ z r, S = .long z :: r ∧ pc' = pc + 1 ∧ L' = L ∧ S' = f z :: r := by
  unfold un64 at h; split at h
  · cases h; exact ⟨_, _, rfl, rfl, rfl, rfl⟩
  · cases h
theorem jump_spec {pc q : Nat} {o : Int} (h : jump pc o = some q) : 0 ≤ (pc : Int) + o ∧ ((pc : Int) + o).toNat = q := by
  unfold jump at h; split at h
  · cases h; exact ⟨by assumption, rfl⟩
  · cases h
theorem br_spec {p : Prop} {b : Bool} {pc : Nat} {o : Int} {L : Array Slot} {S : List Value} {ps : List Prop} {pc' : Nat} {L' : Array Slot} {S' : List Value} (h : br p b pc o L S = some (ps, pc', L', S')) : ps = [p] ∧ L' = L ∧ S' = S ∧ ((b = true ∧ jump pc o = some pc') ∨ (b = false ∧ pc' = pc + 3)) := by
  unfold br at h; split at h
  · rename_i e; split at h
    · rename_i e2; cases h; exact ⟨rfl, rfl, rfl, Or.inl ⟨e, e2⟩⟩
    · cases h
  · rename_i e; cases h; exact ⟨rfl, rfl, rfl, Or.inr ⟨by simpa using e, rfl⟩⟩
section Run
variable {x : Cx} {Z : State} {own nm : String} {bytes : ByteArray} {ml : Nat} {rt : Option FieldType} {R : Room} {n0 : Nat} {Q : Post} {h : Heap} {k n : Nat} {pc pc' : Nat} {L L' : Array Slot} {S S' rest : List Value} {a0 : Array Value} {K : List (Nat × Value)} {ps : List Prop}
theorem stp_ok (ok : Ok x Z own nm bytes ml rt R) (hK : Konst Z a0 own K) {b : Bool} {i : Instr} (hd : decode bytes pc = .ok (i, ilen i)) (hs : stp K b i pc L S = some (ps, pc', L', S')) (hp : allP ps)
    {T : State} {locs : List Loc} {target : State} (X : Sd x T locs k n) (hr : Steps x.p.tables x.e x.below (T.setTop (mkF x.m pc' L' S')) target) : Steps x.p.tables x.e x.below (T.setTop (mkF x.m pc L S)) target := by
  obtain ⟨hx, hby, -, hown, -, hZ, -⟩ := ok
  have hd' := hb hby hd
  have hA : At T x.m x.c x.below := X.here
  cases i
  case iconst z => cases hs; exact XS.iconst hA hx rfl hd' hr
  case bipush z => cases hs; exact XS.bipush hA hx rfl hd' hr
  case sipush z => cases hs; exact XS.sipush hA hx rfl hd' hr
  case lconst z => cases hs; exact XS.lconst hA hx rfl hd' hr
  case aconst_null => cases hs; exact XS.aconstNull hA hx rfl hd' hr
  case ldc j =>
    simp only [stp] at hs
    split at hs
    · rename_i e
      cases hs
      rcases look_spec hK (constI_spec e) with ⟨z, e1, e2⟩ | ⟨z, e1, e2⟩
      · cases e1; exact X.ldcI hx hown (mvT hZ e2) rfl hd' hr
      · cases e1
    · cases hs
  case ldc2_w j =>
    simp only [stp] at hs
    split at hs
    · rename_i e
      cases hs
      rcases look_spec hK (constJ_spec e) with ⟨z, e1, e2⟩ | ⟨z, e1, e2⟩
      · cases e1
      · cases e1; exact X.ldc2J hx hown (mvT hZ e2) rfl hd' hr
    · cases hs
  case iload_n j => obtain ⟨v, e1, e2, rfl, rfl, rfl⟩ := ldK_spec hs; obtain ⟨z, rfl⟩ := isI_spec e2; exact XS.iloadN hA hx rfl hd' e1 hr
  case iload j => obtain ⟨v, e1, e2, rfl, rfl, rfl⟩ := ldK_spec hs; obtain ⟨z, rfl⟩ := isI_spec e2; exact XS.iload hA hx rfl hd' e1 hr
  case lload_n j => obtain ⟨v, e1, e2, rfl, rfl, rfl⟩ := ldK_spec hs; obtain ⟨z, rfl⟩ := isJ_spec e2; exact XS.lloadN hA hx rfl hd' e1 hr
  case lload j => obtain ⟨v, e1, e2, rfl, rfl, rfl⟩ := ldK_spec hs; obtain ⟨z, rfl⟩ := isJ_spec e2; exact XS.lload hA hx rfl hd' e1 hr
  case aload_n j => obtain ⟨v, e1, e2, rfl, rfl, rfl⟩ := ldK_spec hs; exact XS.aloadN hA hx rfl hd' e1 e2 hr
  case aload j => obtain ⟨v, e1, e2, rfl, rfl, rfl⟩ := ldK_spec hs; exact XS.aload hA hx rfl hd' e1 e2 hr
  case istore_n j => obtain ⟨v, rfl, e2, rfl, e3⟩ := stK_spec hs; obtain ⟨z, rfl⟩ := isI_spec e2; exact XS.istoreN hA hx rfl hd' rfl e3 hr
  case istore j => obtain ⟨v, rfl, e2, rfl, e3⟩ := stK_spec hs; obtain ⟨z, rfl⟩ := isI_spec e2; exact XS.istore hA hx rfl hd' rfl e3 hr
  case lstore_n j => obtain ⟨v, rfl, e2, rfl, e3⟩ := stK_spec hs; obtain ⟨z, rfl⟩ := isJ_spec e2; exact XS.lstoreN hA hx rfl hd' rfl e3 hr
  case lstore j => obtain ⟨v, rfl, e2, rfl, e3⟩ := stK_spec hs; obtain ⟨z, rfl⟩ := isJ_spec e2; exact XS.lstore hA hx rfl hd' rfl e3 hr
  case astore_n j => obtain ⟨v, rfl, e2, rfl, e3⟩ := stK_spec hs; exact XS.astoreN hA hx rfl hd' rfl e2 e3 hr
  case astore j => obtain ⟨v, rfl, e2, rfl, e3⟩ := stK_spec hs; exact XS.astore hA hx rfl hd' rfl e2 e3 hr
  case iadd => obtain ⟨z, y, r, rfl, rfl, rfl, rfl⟩ := bin32_spec hs; exact XS.iadd hA hx rfl hd' rfl hr
  case isub => obtain ⟨z, y, r, rfl, rfl, rfl, rfl⟩ := bin32_spec hs; exact XS.isub hA hx rfl hd' rfl hr
  case imul => obtain ⟨z, y, r, rfl, rfl, rfl, rfl⟩ := bin32_spec hs; exact XS.imul hA hx rfl hd' rfl hr
  case iand => obtain ⟨z, y, r, rfl, rfl, rfl, rfl⟩ := bin32_spec hs; exact XS.iand hA hx rfl hd' rfl hr
  case ior => obtain ⟨z, y, r, rfl, rfl, rfl, rfl⟩ := bin32_spec hs; exact XS.ior hA hx rfl hd' rfl hr
  case ixor => obtain ⟨z, y, r, rfl, rfl, rfl, rfl⟩ := bin32_spec hs; exact XS.ixor hA hx rfl hd' rfl hr
  case ishl => obtain ⟨z, y, r, rfl, rfl, rfl, rfl⟩ := bin32_spec hs; exact XS.ishl hA hx rfl hd' rfl hr
  case ishr => obtain ⟨z, y, r, rfl, rfl, rfl, rfl⟩ := bin32_spec hs; exact XS.ishr hA hx rfl hd' rfl hr
  case iushr => obtain ⟨z, y, r, rfl, rfl, rfl, rfl⟩ := bin32_spec hs; exact XS.iushr hA hx rfl hd' rfl hr
  case ladd => obtain ⟨z, y, r, rfl, rfl, rfl, rfl⟩ := bin64_spec hs; exact XS.ladd hA hx rfl hd' rfl hr
  case lsub => obtain ⟨z, y, r, rfl, rfl, rfl, rfl⟩ := bin64_spec hs; exact XS.lsub hA hx rfl hd' rfl hr
  case lmul => obtain ⟨z, y, r, rfl, rfl, rfl, rfl⟩ := bin64_spec hs; exact XS.lmul hA hx rfl hd' rfl hr
  case land => obtain ⟨z, y, r, rfl, rfl, rfl, rfl⟩ := bin64_spec hs; exact XS.land hA hx rfl hd' rfl hr
  case lor => obtain ⟨z, y, r, rfl, rfl, rfl, rfl⟩ := bin64_spec hs; exact XS.lor hA hx rfl hd' rfl hr
  case lxor => obtain ⟨z, y, r, rfl, rfl, rfl, rfl⟩ := bin64_spec hs; exact XS.lxor hA hx rfl hd' rfl hr
  case lshl => obtain ⟨z, y, r, rfl, rfl, rfl, rfl⟩ := sh64_spec hs; exact XS.lshl hA hx rfl hd' rfl hr
  case lshr => obtain ⟨z, y, r, rfl, rfl, rfl, rfl⟩ := sh64_spec hs; exact XS.lshr hA hx rfl hd' rfl hr
  case lushr => obtain ⟨z, y, r, rfl, rfl, rfl, rfl⟩ := sh64_spec hs; exact XS.lushr hA hx rfl hd' rfl hr
  case ineg => obtain ⟨z, r, rfl, rfl, rfl, rfl⟩ := un32_spec hs; exact XS.ineg hA hx rfl hd' rfl hr
  case lneg => obtain ⟨z, r, rfl, rfl, rfl, rfl⟩ := un64_spec hs; exact XS.lneg hA hx rfl hd' rfl hr
  case i2l => obtain ⟨z, r, rfl, rfl, rfl, rfl⟩ := un32_spec hs; exact XS.i2l hA hx rfl hd' rfl hr
  case l2i => obtain ⟨z, r, rfl, rfl, rfl, rfl⟩ := un64_spec hs; exact XS.l2i hA hx rfl hd' rfl hr
  case i2b => obtain ⟨z, r, rfl, rfl, rfl, rfl⟩ := un32_spec hs; exact XS.i2b hA hx rfl hd' rfl hr
  case i2c => obtain ⟨z, r, rfl, rfl, rfl, rfl⟩ := un32_spec hs; exact XS.i2c hA hx rfl hd' rfl hr
  case i2s => obtain ⟨z, r, rfl, rfl, rfl, rfl⟩ := un32_spec hs; exact XS.i2s hA hx rfl hd' rfl hr
  case idiv =>
    simp only [stp] at hs
    split at hs
    · cases hs; exact XS.idiv hA hx rfl hd' rfl hp.1 hr
    · cases hs
  case irem =>
    simp only [stp] at hs
    split at hs
    · cases hs; exact iremM X hx rfl hd' rfl hp.1 hr
    · cases hs
  case ldiv =>
    simp only [stp] at hs
    split at hs
    · cases hs; exact XS.ldiv hA hx rfl hd' rfl hp.1 hr
    · cases hs
  case lrem =>
    simp only [stp] at hs
    split at hs
    · rename_i y z r
      cases hs
      have q : z - z / y * y = z % y := lrem_mod z y
      exact XS.lrem hA hx rfl hd' rfl hp.1 (by rw [q]; exact hr)
    · cases hs
  case lcmp =>
    simp only [stp] at hs
    split at hs
    · cases hs; exact XS.lcmp hA hx rfl hd' rfl hr
    · cases hs
  case pop =>
    simp only [stp] at hs
    split at hs
    · split at hs
      · rename_i e; cases hs; exact XS.pop hA hx rfl hd' rfl e hr
      · cases hs
    · cases hs
  case dup =>
    simp only [stp] at hs
    split at hs
    · split at hs
      · rename_i e; cases hs; exact XS.dup hA hx rfl hd' rfl e hr
      · cases hs
    · cases hs
  case dup_x1 =>
    simp only [stp] at hs
    split at hs
    · split at hs
      · rename_i e; cases hs; exact XS.dupX1 hA hx rfl hd' rfl e.1 e.2 hr
      · cases hs
    · cases hs
  case dup2 =>
    simp only [stp] at hs
    split at hs
    · split at hs
      · rename_i e; cases hs; exact XT.dup2 hA hx rfl hd' rfl e.1 e.2 hr
      · cases hs
    · cases hs
  case iinc j c =>
    simp only [stp] at hs
    split at hs
    · rename_i e1
      split at hs
      · rename_i e2; cases hs; exact XS.iinc hA hx rfl hd' e1 e2 hr
      · cases hs
    · cases hs
  case goto o =>
    simp only [stp] at hs
    split at hs
    · rename_i e; cases hs; obtain ⟨e1, e2⟩ := jump_spec e; exact XS.goto hA hx rfl rfl hd' e1 e2 hr
    · cases hs
  case ifCond cd o =>
    simp only [stp] at hs
    split at hs
    · obtain ⟨rfl, rfl, rfl, ⟨rfl, e⟩ | ⟨rfl, rfl⟩⟩ := br_spec hs
      · obtain ⟨e1, e2⟩ := jump_spec e; exact XS.ifYes hA hx rfl rfl hd' rfl hp.1 e1 e2 hr
      · exact XS.ifNo hA hx rfl hd' rfl hp.1 hr
    · cases hs
  case if_icmp cd o =>
    simp only [stp] at hs
    split at hs
    · obtain ⟨rfl, rfl, rfl, ⟨rfl, e⟩ | ⟨rfl, rfl⟩⟩ := br_spec hs
      · obtain ⟨e1, e2⟩ := jump_spec e; exact XS.icmpYes hA hx rfl rfl hd' rfl hp.1 e1 e2 hr
      · exact XS.icmpNo hA hx rfl hd' rfl hp.1 hr
    · cases hs
  case ifnull o =>
    simp only [stp] at hs
    split at hs
    · split at hs
      · rename_i e0; subst e0
        obtain ⟨rfl, rfl, rfl, ⟨-, e⟩ | ⟨e, -⟩⟩ := br_spec hs
        · obtain ⟨e1, e2⟩ := jump_spec e; exact XS.ifnullYes hA hx rfl rfl hd' rfl e1 e2 hr
        · cases e
      · cases hs
    · split at hs
      · cases hs
      · rename_i e0
        obtain ⟨rfl, rfl, rfl, ⟨e, -⟩ | ⟨-, rfl⟩⟩ := br_spec hs
        · exact absurd e e0
        · exact XS.ifnullNo hA hx rfl hd' rfl hr
    · cases hs
  case ifnonnull o =>
    simp only [stp] at hs
    split at hs
    · split at hs
      · cases hs
      · rename_i e0
        obtain ⟨rfl, rfl, rfl, ⟨e, -⟩ | ⟨-, rfl⟩⟩ := br_spec hs
        · exact absurd e e0
        · exact XS.ifnonnullNo hA hx rfl hd' rfl hr
    · split at hs
      · rename_i e0; subst e0
        obtain ⟨rfl, rfl, rfl, ⟨-, e⟩ | ⟨e, -⟩⟩ := br_spec hs
        · obtain ⟨e1, e2⟩ := jump_spec e; exact XS.ifnonnullYes hA hx rfl rfl hd' rfl e1 e2 hr
        · cases e
      · cases hs
    · cases hs
  all_goals cases hs
theorem run_ok (ok : Ok x Z own nm bytes ml rt R) (hK : Konst Z a0 own K) : ∀ (B : List (Nat × Instr × Bool)) {pc : Nat} {L : Array Slot} {S : List Value} {ps : List Prop} {pc' : Nat} {L' : Array Slot} {S' : List Value}, decs bytes B = true → runL K B pc L S = some (ps, pc', L', S') → allP ps →
    ∀ {T : State} {locs : List Loc} {target : State}, Sd x T locs k n → Steps x.p.tables x.e x.below (T.setTop (mkF x.m pc' L' S')) target → Steps x.p.tables x.e x.below (T.setTop (mkF x.m pc L S)) target
  | [], pc, L, S, ps, pc', L', S', _, hr, _, T, locs, target, X, st => by cases hr; exact st
  | (q, i, b) :: r, pc, L, S, ps, pc', L', S', hd, hr, hp, T, locs, target, X, st => by
    simp only [decs, List.all_cons, Bool.and_eq_true, decide_eq_true_eq] at hd
    simp only [runL] at hr
    split at hr
    · rename_i e; subst e
      split at hr
      · cases hr
      · rename_i ps1 pc1 L1 S1 e1
        split at hr
        · cases hr
        · rename_i ps2 t e2
          cases hr
          obtain ⟨p1, p2⟩ := allP_append hp
          exact stp_ok ok hK hd.1 e1 p1 X (run_ok ok hK r hd.2 e2 p2 X st)
    · cases hr
theorem wp_run (ok : Ok x Z own nm bytes ml rt R) (hK : Konst Z a0 own K) {B : List (Nat × Instr × Bool)} (hd : decs bytes B = true) (hr : runL K B pc L S = some (ps, pc', L', S')) (hp : allP ps) (w : WP x n0 Q h k n pc' L' S') : WP x n0 Q h k n pc L S :=
  wp_steps (fun T locs target X _ st => run_ok ok hK B hd hr hp X st) w
end Run
end Jvm.OwnW
namespace Jvm.OwnW
open Sem ClassFile Op Lib Jvm.Free Jvm.Stand Jvm.LawKit Jvm.RoadKit Jvm.Free.XT
/-! ## arrays by length and content -/
def Ar (Z : State) (h : Heap) (a : Addr) (ty : FieldType) (n : Nat) (f : Nat → Value) : Prop := ∃ c : Cell, Arr Z h a c ty ∧ c.slots.size = n ∧ ∀ i, i < n → c.slots[i]? = some (f i)
theorem idx_of {j : Int32} {i : Nat} (hj : j.toInt = i) : j.toNatClampNeg = i ∧ ¬ j < 0 := by
  refine ⟨by simp only [Int32.toNatClampNeg, hj]; exact Int.toNat_natCast i, ?_⟩
  rw [Int32.lt_iff_toInt_lt, hj]; show ¬ (i : Int) < 0; omega
theorem idx_in' {j : Int32} {i n : Nat} (hj : j.toInt = i) (hi : i < n) : ¬ (j < 0 ∨ n ≤ j.toNatClampNeg) := by
  obtain ⟨q1, q2⟩ := idx_of hj
  rw [q1]; intro q; rcases q with q | q
  · exact q2 q
  · omega
section Facts
variable {Z : State} {h h' : Heap} {a b : Addr} {ty : FieldType} {n : Nat} {f g : Nat → Value} {sl : Nat} {v : Value} {ws : List Addr}
theorem Ar.lt (A : Ar Z h a ty n f) : a < h.size := by obtain ⟨c, A, -⟩ := A; exact A.lt
theorem Ar.ext (A : Ar Z h a ty n f) (E : Ext h h') : Ar Z h' a ty n f := by obtain ⟨c, A, r⟩ := A; exact ⟨c, A.ext E, r⟩
theorem Ar.other (A : Ar Z h b ty n f) (W : Wr h h' a sl v) (q : b ≠ a) : Ar Z h' b ty n f := by obtain ⟨c, A, r⟩ := A; exact ⟨c, A.other W q, r⟩
theorem Ar.keep (A : Ar Z h a ty n f) (K : Keep h h' ws) (q : a ∉ ws) : Ar Z h' a ty n f := by obtain ⟨c, A, r⟩ := A; exact ⟨c, ⟨K.2.1 a c A.1 q, A.2⟩, r⟩
theorem Ar.cong (A : Ar Z h a ty n f) (e : ∀ i, i < n → f i = g i) : Ar Z h a ty n g := by obtain ⟨c, A, s, r⟩ := A; exact ⟨c, A, s, fun i hi => by rw [← e i hi]; exact r i hi⟩
theorem Ar.same (A : Ar Z h a ty n f) (W : Wr h h' a sl v) (hs : sl < n) : Ar Z h' a ty n (fun i => if i = sl then v else f i) := by
  obtain ⟨c, A, s, r⟩ := A
  refine ⟨_, A.same W, by rw [sz_set]; exact s, fun i hi => ?_⟩
  show (c.setSlot sl v).slots[i]? = some (if i = sl then v else f i)
  by_cases e : i = sl
  · subst e; rw [if_pos rfl]; simp [Cell.setSlot, s, hs]
  · rw [if_neg e]; simp only [Cell.setSlot]; rw [Array.getElem?_setIfInBounds_ne (Ne.symm e)]; exact r i hi
theorem Ar.new {cA : ClassId} {z : Int32} (A : Arr Z h a (newA cA ty z) ty) (hz : z.toNatClampNeg = n) : Ar Z h a ty n (fun _ => defaultValue ty) := ⟨_, A, by rw [sz_new]; exact hz, fun i hi => by simp [newA, hz, hi]⟩
theorem Ar.toArv (A : Ar Z h a ty n f) (hn : n < 2 ^ 31) (hf : ∀ i, i < n → fits ty (f i) = true) (dv : Value) : ∃ k, Arv Z h a k ty (Int32.ofNat n) ((List.range n).map f) dv := by
  obtain ⟨c, A, s, r⟩ := A
  have e : (Int32.ofNat n).toInt = n := len_toInt hn
  obtain ⟨q1, q2⟩ := idx_of e
  have gd : ∀ i, i < n → ((List.range n).map f).getD i dv = f i := fun i hi => by simp [hi]
  exact ⟨c.cls, c, A, rfl, by rw [s, q1], q2, fun i hi => by rw [s] at hi; rw [gd i hi]; exact r i hi, fun i hi => by rw [s] at hi; rw [gd i hi]; exact hf i hi⟩
theorem Ar.ofArv {k : ClassId} {z : Int32} {vs : List Value} {dv : Value} (A : Arv Z h a k ty z vs dv) (hz : z.toNatClampNeg = n) : Ar Z h a ty n (fun i => vs.getD i dv) := by
  obtain ⟨c, A, -, s, -, H, -⟩ := A
  exact ⟨c, A, s.trans hz, fun i hi => H i (by rw [s, hz]; exact hi)⟩
theorem ne_ar {C : String} {a0 : Array Value} {k : Nat} (F : Exa Z h a C) (wi : (Jvm.Cond.instantiable C k).before a0 Z = true) (G : Ar Z h b ty n f) : a ≠ b := by obtain ⟨c, A, -⟩ := G; exact ne_arr F wi A
end Facts
section Rules
variable {x : Cx} {Z : State} {own nm : String} {bytes : ByteArray} {ml : Nat} {rt : Option FieldType} {R : Room} {n0 : Nat} {Q : Post} {h : Heap} {k n : Nat} {pc : Nat} {L : Array Slot} {S rest : List Value} {a0 : Array Value} {a : Addr} {v : Value} {len i : Nat} {f : Nat → Value} {j : Int32}
theorem wp_aI (ok : Ok x Z own nm bytes ml rt R) (A : Ar Z h a .int len f) (hj : j.toInt = i) (hi : i < len) (hv : f i = v) (hd : decode bytes pc = .ok (.iaload, 1)) (hw : WP x n0 Q h k n (pc + 1) L (v :: rest)) : WP x n0 Q h k n pc L (.int j :: .ref a :: rest) := by
  obtain ⟨c, A, s, r⟩ := A
  exact wp_ldI ok A (by rw [s]; exact idx_in' hj hi) (by rw [(idx_of hj).1, ← hv]; exact r i hi) hd hw
theorem wp_aJ (ok : Ok x Z own nm bytes ml rt R) (A : Ar Z h a .long len f) (hj : j.toInt = i) (hi : i < len) (hv : f i = v) (hd : decode bytes pc = .ok (.laload, 1)) (hw : WP x n0 Q h k n (pc + 1) L (v :: rest)) : WP x n0 Q h k n pc L (.int j :: .ref a :: rest) := by
  obtain ⟨c, A, s, r⟩ := A
  exact wp_ldJ ok A (by rw [s]; exact idx_in' hj hi) (by rw [(idx_of hj).1, ← hv]; exact r i hi) hd hw
theorem wp_aB (ok : Ok x Z own nm bytes ml rt R) (A : Ar Z h a .byte len f) (hj : j.toInt = i) (hi : i < len) (hv : f i = v) (hd : decode bytes pc = .ok (.baload, 1)) (hw : WP x n0 Q h k n (pc + 1) L (v :: rest)) : WP x n0 Q h k n pc L (.int j :: .ref a :: rest) := by
  obtain ⟨c, A, s, r⟩ := A
  exact wp_ldB ok A (by rw [s]; exact idx_in' hj hi) (by rw [(idx_of hj).1, ← hv]; exact r i hi) hd hw
theorem wp_aZ (ok : Ok x Z own nm bytes ml rt R) (A : Ar Z h a .boolean len f) (hj : j.toInt = i) (hi : i < len) (hv : f i = v) (hd : decode bytes pc = .ok (.baload, 1)) (hw : WP x n0 Q h k n (pc + 1) L (v :: rest)) : WP x n0 Q h k n pc L (.int j :: .ref a :: rest) := by
  obtain ⟨c, A, s, r⟩ := A
  exact wp_ldZ ok A (by rw [s]; exact idx_in' hj hi) (by rw [(idx_of hj).1, ← hv]; exact r i hi) hd hw
theorem wp_alen {ty : FieldType} (ok : Ok x Z own nm bytes ml rt R) (A : Ar Z h a ty len f) (hd : decode bytes pc = .ok (.arraylength, 1)) (hw : WP x n0 Q h k n (pc + 1) L (.int (Int32.ofNat len) :: rest)) : WP x n0 Q h k n pc L (.ref a :: rest) := by
  obtain ⟨c, A, s, r⟩ := A
  refine wp_len ok A hd ?_
  rw [s]; exact hw
theorem wp_sI {z : Int32} (ok : Ok x Z own nm bytes ml rt R) (A : Ar Z h a .int len f) (hj : j.toInt = i) (hi : i < len) (hd : decode bytes pc = .ok (.iastore, 1)) (ha : n0 ≤ a)
    (hw : ∀ h', Wr h h' a i (.int z) → Ar Z h' a .int len (fun q => if q = i then .int z else f q) → WP x n0 Q h' k n (pc + 1) L rest) : WP x n0 Q h k n pc L (.int z :: .int j :: .ref a :: rest) := by
  have A0 := A
  obtain ⟨c, A, s, r⟩ := A
  refine wp_stI ok A (by rw [s]; exact idx_in' hj hi) hd ha ?_
  rw [(idx_of hj).1]
  exact fun h' W => hw h' W (A0.same W hi)
theorem wp_sJ {z : Int64} (ok : Ok x Z own nm bytes ml rt R) (A : Ar Z h a .long len f) (hj : j.toInt = i) (hi : i < len) (hd : decode bytes pc = .ok (.lastore, 1)) (ha : n0 ≤ a)
    (hw : ∀ h', Wr h h' a i (.long z) → Ar Z h' a .long len (fun q => if q = i then .long z else f q) → WP x n0 Q h' k n (pc + 1) L rest) : WP x n0 Q h k n pc L (.long z :: .int j :: .ref a :: rest) := by
  have A0 := A
  obtain ⟨c, A, s, r⟩ := A
  refine wp_stJ ok A (by rw [s]; exact idx_in' hj hi) hd ha ?_
  rw [(idx_of hj).1]
  exact fun h' W => hw h' W (A0.same W hi)
theorem wp_sB {z : Int32} (ok : Ok x Z own nm bytes ml rt R) (A : Ar Z h a .byte len f) (hj : j.toInt = i) (hi : i < len) (hd : decode bytes pc = .ok (.bastore, 1)) (ha : n0 ≤ a)
    (hw : ∀ h', Wr h h' a i (.int (nar .byte z)) → Ar Z h' a .byte len (fun q => if q = i then .int (nar .byte z) else f q) → WP x n0 Q h' k n (pc + 1) L rest) : WP x n0 Q h k n pc L (.int z :: .int j :: .ref a :: rest) := fun T locs X e N => by
  have A0 := A
  obtain ⟨c, A, s, r⟩ := A
  obtain ⟨T', h', X', e', W, st⟩ := stB X ok.1 ok.2.2.2.2.2.1 e A (by rw [s]; exact idx_in' hj hi) (g := mkF x.m pc L (.int z :: .int j :: .ref a :: rest)) rfl rfl (hb ok.2.1 hd)
  have W' := W
  rw [(idx_of hj).1] at W'
  obtain ⟨s₂, o, h1, r⟩ := hw h' W' (A0.same W' hi) T' _ X' e' (Fr.snoc X' N ha)
  exact ⟨s₂, o, st _ h1, r⟩
theorem wp_sZ {z : Int32} (ok : Ok x Z own nm bytes ml rt R) (A : Ar Z h a .boolean len f) (hj : j.toInt = i) (hi : i < len) (hd : decode bytes pc = .ok (.bastore, 1)) (ha : n0 ≤ a)
    (hw : ∀ h', Wr h h' a i (.int (nar .boolean z)) → Ar Z h' a .boolean len (fun q => if q = i then .int (nar .boolean z) else f q) → WP x n0 Q h' k n (pc + 1) L rest) : WP x n0 Q h k n pc L (.int z :: .int j :: .ref a :: rest) := fun T locs X e N => by
  have A0 := A
  obtain ⟨c, A, s, r⟩ := A
  obtain ⟨T', h', X', e', W, st⟩ := stZ X ok.1 ok.2.2.2.2.2.1 e A (by rw [s]; exact idx_in' hj hi) (g := mkF x.m pc L (.int z :: .int j :: .ref a :: rest)) rfl rfl (hb ok.2.1 hd)
  have W' := W
  rw [(idx_of hj).1] at W'
  obtain ⟨s₂, o, h1, r⟩ := hw h' W' (A0.same W' hi) T' _ X' e' (Fr.snoc X' N ha)
  exact ⟨s₂, o, st _ h1, r⟩
theorem wp_nA {aty : ArrayType} {z : Int32} {cap : Nat} (ok : Ok x Z own nm bytes ml rt R) (w : (Jvm.Cond.arrayClass (newarray.typeOf aty)).before a0 Z = true) (hd : decode bytes pc = .ok (.newarray aty, 2)) (hz : z.toInt = cap) (hb8 : cap * 8 ≤ 536870912) (hk : k + 1 ≤ R.cells) (hn : n + cap ≤ R.slots)
    (hw : ∀ h' a, a = h.size → Ext h h' → Ar Z h' a (newarray.typeOf aty) cap (fun _ => defaultValue (newarray.typeOf aty)) → WP x n0 Q h' (k + 1) (n + cap) (pc + 2) L (.ref a :: rest)) : WP x n0 Q h k n pc L (.int z :: rest) :=
  wp_newA ok w hd (idx_of hz).2 (Nat.le_of_eq (idx_of hz).1) hb8 hk hn fun h' a cA e E A => hw h' a e E (Ar.new A (idx_of hz).1)
end Rules
end Jvm.OwnW
namespace Jvm.OwnW
open Jvm.RoadKit
def lst (vs : List Value) : Nat → Value := fun i => vs.getD i .null
theorem lst_set {Z : State} {h : Heap} {a : Addr} {ty : ClassFile.FieldType} {n i : Nat} {v : Value} {vs vs' : List Value} (A : Ar Z h a ty n (fun q => if q = i then v else lst vs q)) (hn : vs.length = n) (hi : i < n) (e : vs.set i v = vs') : Ar Z h a ty n (lst vs') := A.cong fun q hq => by
  subst e
  by_cases p : q = i
  · subst p; rw [if_pos rfl]; simp [lst, hn, hi]
  · rw [if_neg p]; simp only [lst, List.getD_eq_getElem?_getD]; rw [List.getElem?_set_ne (Ne.symm p)]
theorem lst_new {Z : State} {h : Heap} {a : Addr} {ty : ClassFile.FieldType} {n : Nat} {v : Value} {vs : List Value} (A : Ar Z h a ty n (fun _ => v)) (e : List.replicate n v = vs) : Ar Z h a ty n (lst vs) := A.cong fun q hq => by
  subst e; simp [lst, hq]
end Jvm.OwnW
namespace Jvm.OwnW
open Sem ClassFile Op Lib Jvm.Free Jvm.Stand Jvm.LawKit Jvm.RoadKit Jvm.Free.XT
theorem wp_copy {x : Cx} {Z : State} {own nm : String} {bytes : ByteArray} {ml : Nat} {rt : Option FieldType} {R : Room} {n0 : Nat} {Q : Post} {h : Heap} {k n : Nat} {pc : Nat} {L : Array Slot} {rest : List Value} {a0 : Array Value} {a b : Addr} {ty : FieldType} {na nb mm : Nat} {f g : Nat → Value} {index : Nat} {z : Int32}
    (ok : Ok x Z own nm bytes ml rt R) (w1 : (Jvm.Cond.methodLink own index Jvm.Stand.acN).before a0 Z = true) (w2 : (Jvm.Cond.native Jvm.Stand.acN).before a0 Z = true) (w3 : (Jvm.Cond.static Jvm.Stand.acN).before a0 Z = true) (w4 : (Jvm.Cond.initialized "java/lang/System").before a0 Z = true)
    (A : Ar Z h a ty na f) (B : Ar Z h b ty nb g) (hty : refKind ty = false) (fa : ∀ i, i < na → fits ty (f i) = true) (fb : ∀ i, i < nb → fits ty (g i) = true) (la : na < 2 ^ 31) (lb : nb < 2 ^ 31) (hz : z.toInt = mm) (h1 : mm ≤ na) (h2 : mm ≤ nb) (ge : n0 ≤ b) (hL : L.size = ml)
    (hd : decode bytes pc = .ok (.invokestatic index, 3)) (hf : 1 ≤ R.frames) (hlo : (rest.map fun v => v.category).sum + 18 ≤ R.locals)
    (hw : ∀ h', Keep h h' [b] → Ar Z h' b ty nb (fun i => if i < mm then f i else g i) → WP x n0 Q h' k n (pc + 3) L rest) : WP x n0 Q h k n pc L (.int z :: .int 0 :: .ref b :: .int 0 :: .ref a :: rest) := fun T locs X e N => by
  obtain ⟨ka, A'⟩ := A.toArv la fa .null
  obtain ⟨kb, B'⟩ := B.toArv lb fb .null
  have ea : (Int32.ofNat na).toNatClampNeg = na := (idx_of (len_toInt la)).1
  have eb : (Int32.ofNat nb).toNatClampNeg = nb := (idx_of (len_toInt lb)).1
  have ez := (idx_of hz).1
  have e0 : (0 : Int32).toNatClampNeg = 0 := rfl
  obtain ⟨T', h', L', X', e', N', K, C, st⟩ := cpA X ok.1 ok.2.2.2.2.2.1 ok.2.2.2.1 w1 w2 w3 w4 e A' B' (Or.inl ⟨rfl, hty⟩) (sp := 0) (dp := 0) (nn := z) (by decide) (by decide) (idx_of hz).2 (by rw [e0, ez, ea]; omega) (by rw [e0, ez, eb]; omega) rfl (by rw [e0, ez]; simpa using h2) N ge
    (g := mkF x.m pc L (.int z :: .int 0 :: .ref b :: .int 0 :: .ref a :: rest)) rfl (by show L.size = _; rw [ok.2.2.1]; exact hL) rfl (hb ok.2.1 hd) (by rw [ok.2.2.2.2.2.2.2.2]; exact hf) (W := (rest.map fun v => v.category).sum) (by show 2 * 0 + _ ≤ _; omega) (by rw [ok.2.2.2.2.2.2.2.2]; exact hlo)
  have D := (Ar.ofArv C eb).cong (g := fun i => if i < mm then f i else g i) fun i hi => by
    rw [e0, ez]
    simp only [Nat.zero_add, List.take_zero, List.nil_append, List.getD_eq_getElem?_getD]
    by_cases q : i < mm
    · rw [if_pos q, List.getElem?_append_left (by simpa using q)]
      simp [q, show i < na by omega]
    · rw [if_neg q, List.getElem?_append_right (by simpa using Nat.le_of_not_lt q)]
      simp [show mm + (i - mm) = i by omega, hi]
  obtain ⟨s₂, o, g1, r⟩ := hw h' K D T' L' X' e' N'
  exact ⟨s₂, o, st _ g1, r⟩
end Jvm.OwnW
namespace Jvm.Pilot.@@N@@
open Jvm Jvm.ClassFile Sem Op Lib Jvm.Free Jvm.Stand Jvm.LawKit Jvm.RoadKit Bundle Jvm.OwnW Jvm.Free.XT Jvm.Pilot.@@N@@.Jvm.D
theorem own_ct (nn ct : Int32) (h : ct = (((nn &&& (7 : Int32)) % (5 : Int32)) + (1 : Int32))) : ct = 1 ∨ ct = 2 ∨ ct = 3 ∨ ct = 4 ∨ ct = 5 := by
  have e1 := c_mask nn 7 3 (by decide) (by decide)
  have e2 := (c_irem (nn &&& 7) 5 5 rfl).1 (by rw [e1]; omega)
  have o1 : (1 : Int32).toInt = 1 := rfl
  have e3 : ct.toInt = (nn &&& 7).toInt % 5 + 1 := by rw [h, x_iadd (by rw [e2, o1]; omega) (by rw [e2, o1]; omega), e2, o1]
  have k : ∀ w : Int32, (ct = w) ↔ ct.toInt = w.toInt := fun w => Int32.toInt_inj.symm
  simp only [k, Int32.reduceToInt]; omega

def k_min : List (Nat × Value) := []
def Q_min (Z : State) (p : Int32) (q : Int32) (h0 : Heap) : Post := fun v h => v = some (.int (if q < p then q else p)) ∧ h0 = h
theorem own_min_1 (p : Int32) (q : Int32) (s10_0 : Int32) (h_s10_0 : s10_0 = (if q < p then q else p)) : s10_0 = (if q < p then q else p) := by
  exact h_s10_0
theorem pn_min : plainFor (⟨"java/lang/Math", "min", "(II)I"⟩ : MethodName) = true := by first | (refine plainFor_of_name ?_; simp [plainName, overriddenIn]; done) | decide +kernel
set_option maxRecDepth 65536 in
set_option maxHeartbeats 40000000 in
theorem c_min (l : Launch) (Z : State) (a0 : Array Value) (hw : ∀ d ∈ tables_1, d.before a0 Z = true) (p : Int32) (q : Int32) (h0 : Heap) (n0 : Nat) (Z0 : n0 ≤ h0.size) :
    Con l Z (⟨"java/lang/Math", "min", "(II)I"⟩ : MethodName) jdk_29_method_69_code 2 (some .int) ({ frames := 0, cells := 0, slots := 0, locals := 0 } : Room) #[.int p, .int q] h0 n0 (Q_min Z p q h0) [] := by
  refine con_of_wp pn_min (L0 := #[.val (.int p), .val (.int q)]) (fun m => by first | (simp [entryFrame, mkF, argsToLocals, Value.category]; done) | rfl) (fun X hl ok => ?_)
  subst hl
  have hK : Konst Z a0 "java/lang/Math" k_min := trivial
  refine wp_run ok hK (B := [(0, .iload_n 0, false), (1, .iload_n 1, false)]) (by decide +kernel) (pc' := 2) (L' := #[.val (.int p), .val (.int q)]) (S' := [.int q, .int p]) rfl trivial ?_
  have J10_2 : ∀ (s10_0 : Int32) (h_s10_0 : s10_0 = (if q < p then q else p)), WP X n0 (Q_min Z p q h0) h0 0 0 10 #[.val (.int p), .val (.int q)] [.int s10_0] := by
    intro s10_0 h_s10_0
    refine wp_retI ok (by decide +kernel) (by decide) (by decide) ?_
    exact ⟨congrArg (fun z => some (Value.int z)) (own_min_1 p q s10_0 h_s10_0), rfl⟩
  by_cases c1 : q < p
  · refine wp_run ok hK (B := [(2, .if_icmp .gt 7, true), (9, .iload_n 1, false)]) (by decide +kernel) (pc' := 10) (L' := #[.val (.int p), .val (.int q)]) (S' := [.int q]) rfl ⟨(XT.ii_gt_t c1), trivial⟩ ?_
    exact J10_2 _ (by rw [if_pos c1])
  · refine wp_run ok hK (B := [(2, .if_icmp .gt 7, false), (5, .iload_n 0, false), (6, .goto 4, false)]) (by decide +kernel) (pc' := 10) (L' := #[.val (.int p), .val (.int q)]) (S' := [.int p]) rfl ⟨(XT.ii_gt_f c1), trivial⟩ ?_
    exact J10_2 _ (by rw [if_neg c1])
def k_cpy : List (Nat × Value) := []
def Q_cpy (Z : State) (b : Addr) (w0 : Int32) (w1 : Int32) (w2 : Int32) (w3 : Int32) (h0 : Heap) : Post := fun v h => ∃ r : Addr, v = some (.ref r) ∧ Keep h0 h [] ∧ h0.size ≤ r ∧ Ar Z h r .int 8 (lst [.int w0, .int w1, .int w2, .int w3, .int (0 : Int32), .int (0 : Int32), .int (0 : Int32), .int (0 : Int32)])
theorem own_cpy_1 (w0 : Int32) (w1 : Int32) (w2 : Int32) (w3 : Int32) (z25 : Int32) (h_z25 : z25 = (if (8 : Int32) < (4 : Int32) then (8 : Int32) else (4 : Int32))) : z25.toInt = ((4 : Nat) : Int) := by
  rw [h_z25]; decide
theorem pn_cpy : plainFor (⟨"java/util/Arrays", "copyOf", "([II)[I"⟩ : MethodName) = true := by first | (refine plainFor_of_name ?_; simp [plainName, overriddenIn]; done) | decide +kernel
set_option maxRecDepth 65536 in
set_option maxHeartbeats 40000000 in
theorem c_cpy (l : Launch) (Z : State) (a0 : Array Value) (hw : ∀ d ∈ tables_1, d.before a0 Z = true) (b : Addr) (w0 : Int32) (w1 : Int32) (w2 : Int32) (w3 : Int32) (h0 : Heap) (n0 : Nat) (Z0 : n0 ≤ h0.size) (A_b : Ar Z h0 b .int 4 (lst [.int w0, .int w1, .int w2, .int w3])) (g_b : n0 ≤ b) :
    Con l Z (⟨"java/util/Arrays", "copyOf", "([II)[I"⟩ : MethodName) jdk_65_method_123_code 3 (some (.array .int)) ({ frames := 1, cells := 1, slots := 8, locals := 18 } : Room) #[(.ref b), .int (8 : Int32)] h0 n0 (Q_cpy Z b w0 w1 w2 w3 h0) [] := by
  refine con_of_wp pn_cpy (L0 := #[.val ((.ref b)), .val (.int (8 : Int32)), .unset]) (fun m => by first | (simp [entryFrame, mkF, argsToLocals, Value.category]; done) | rfl) (fun X hl ok => ?_)
  subst hl
  have hK : Konst Z a0 "java/util/Arrays" k_cpy := trivial
  have K0 : Keep h0 h0 [] := Keep.refl _ _
  refine wp_run ok hK (B := [(0, .iload_n 1, false), (1, .aload_n 0, false)]) (by decide +kernel) (pc' := 2) (L' := #[.val ((.ref b)), .val (.int (8 : Int32)), .unset]) (S' := [(.ref b), .int (8 : Int32)]) rfl trivial ?_
  refine wp_alen ok A_b (by decide +kernel) ?_
  show WP X n0 (Q_cpy Z b w0 w1 w2 w3 h0) h0 0 0 3 #[.val ((.ref b)), .val (.int (8 : Int32)), .unset] [.int (4 : Int32), .int (8 : Int32)]
  refine wp_run ok hK (B := [(3, .if_icmp .ne 11, true), (14, .iload_n 1, false)]) (by decide +kernel) (pc' := 15) (L' := #[.val ((.ref b)), .val (.int (8 : Int32)), .unset]) (S' := [.int (8 : Int32)]) rfl ⟨(XT.ii_ne_t (by decide)), trivial⟩ ?_
  refine wp_nA ok (aty := .int) (wd hw 9 rfl) (by decide +kernel) (cap := 8) (by rfl) (by decide) (by decide) (by decide) ?_
  intro h1 a2 ea3 X4 A5
  have A6 := A_b.ext X4
  have Z7 : n0 ≤ h1.size := Nat.le_trans Z0 X4.1
  have K8 := K0.ext X4
  have A9 : Ar Z h1 a2 .int 8 (lst [.int (0 : Int32), .int (0 : Int32), .int (0 : Int32), .int (0 : Int32), .int (0 : Int32), .int (0 : Int32), .int (0 : Int32), .int (0 : Int32)]) := lst_new A5 rfl
  have g10 : n0 ≤ a2 := by rw [ea3]; exact Z0
  have g11 : h0.size ≤ a2 := by rw [ea3]; exact K0.1
  refine wp_run ok hK (B := [(17, .astore_n 2, false), (18, .aload_n 0, false), (19, .iconst 0, false), (20, .aload_n 2, false), (21, .iconst 0, false), (22, .aload_n 0, false)]) (by decide +kernel) (pc' := 23) (L' := #[.val ((.ref b)), .val (.int (8 : Int32)), .val ((.ref a2))]) (S' := [(.ref b), .int (0 : Int32), (.ref a2), .int (0 : Int32), (.ref b)]) rfl trivial ?_
  refine wp_alen ok A6 (by decide +kernel) ?_
  show WP X n0 (Q_cpy Z b w0 w1 w2 w3 h0) h1 1 8 24 #[.val ((.ref b)), .val (.int (8 : Int32)), .val ((.ref a2))] [.int (4 : Int32), .int (0 : Int32), (.ref a2), .int (0 : Int32), (.ref b)]
  refine wp_run ok hK (B := [(24, .iload_n 1, false)]) (by decide +kernel) (pc' := 25) (L' := #[.val ((.ref b)), .val (.int (8 : Int32)), .val ((.ref a2))]) (S' := [.int (8 : Int32), .int (4 : Int32), .int (0 : Int32), (.ref a2), .int (0 : Int32), (.ref b)]) rfl trivial ?_
  refine wp_static ok (wd hw 37 rfl) (wd hw 38 rfl) (wd hw 39 rfl) (wd hw 40 rfl) (by decide) (argsL := [.int (4 : Int32), .int (8 : Int32)]) (rest := [.int (0 : Int32), (.ref a2), .int (0 : Int32), (.ref b)]) (c_min _ Z a0 hw (4 : Int32) (8 : Int32) h1 n0 Z7 ) (ps := [.int, .int]) (by decide +kernel) (by rfl) (by rfl) (by rfl) (by decide +kernel) (by decide) (Nat.le_of_ble_eq_true rfl) (by decide) (by decide) ?_
  intro r12 h13 q14
  obtain ⟨e15, rfl⟩ := q14
  obtain ⟨z25, h_z25⟩ : ∃ z : Int32, z = (if (8 : Int32) < (4 : Int32) then (8 : Int32) else (4 : Int32)) := ⟨_, rfl⟩
  have e15' := e15.trans (show _ = some (Value.int z25) by rw [h_z25])
  subst e15'
  show WP X n0 (Q_cpy Z b w0 w1 w2 w3 h0) h1 1 8 28 #[.val ((.ref b)), .val (.int (8 : Int32)), .val ((.ref a2))] [.int z25, .int (0 : Int32), (.ref a2), .int (0 : Int32), (.ref b)]
  refine wp_copy ok (wd hw 41 rfl) (wd hw 44 rfl) (wd hw 42 rfl) (wd hw 43 rfl) A6 A9 rfl (fun i hi => by match i, hi with | 0, _ => rfl | 1, _ => rfl | 2, _ => rfl | 3, _ => rfl | k + 4, hi => exact absurd hi (by omega)) (fun i hi => by match i, hi with | 0, _ => rfl | 1, _ => rfl | 2, _ => rfl | 3, _ => rfl | 4, _ => rfl | 5, _ => rfl | 6, _ => rfl | 7, _ => rfl | k + 8, hi => exact absurd hi (by omega)) (by decide) (by decide) (mm := 4) (own_cpy_1 w0 w1 w2 w3 z25 h_z25) (by decide) (by decide) g10 (by rfl) (by decide +kernel) (by decide) (by decide) ?_
  intro h16 K17 A18
  have A19 : Ar Z h16 a2 .int 8 (lst [.int w0, .int w1, .int w2, .int w3, .int (0 : Int32), .int (0 : Int32), .int (0 : Int32), .int (0 : Int32)]) := A18.cong (fun i hi => by match i, hi with | 0, _ => rfl | 1, _ => rfl | 2, _ => rfl | 3, _ => rfl | 4, _ => rfl | 5, _ => rfl | 6, _ => rfl | 7, _ => rfl | k + 8, hi => exact absurd hi (by omega))
  have A20 := A6.keep K17 (by simp only [List.mem_cons, List.not_mem_nil, or_false, not_or]; exact (ne_new (A_b.lt) ea3))
  have Z21 : n0 ≤ h16.size := Nat.le_trans Z7 K17.1
  have K22 := K8.trans K17 (allS (P := fun z => z ∈ [] ∨ h0.size ≤ z) (Or.inr g11) all0)
  refine wp_run ok hK (B := [(31, .aload_n 2, false)]) (by decide +kernel) (pc' := 32) (L' := #[.val ((.ref b)), .val (.int (8 : Int32)), .val ((.ref a2))]) (S' := [(.ref a2)]) rfl trivial ?_
  refine wp_retA ok (by rfl) (by rfl) (by decide +kernel) (by decide) (by decide) ?_
  exact ⟨a2, rfl, K22, g11, A19⟩
def k_ini : List (Nat × Value) := []
def Q_ini (Z : State) (a : Addr) (h0 : Heap) : Post := fun v h => ∃ ad : Addr, v = none ∧ Keep h0 h [a] ∧ h0.size ≤ ad ∧ Fld Z h a "com/example/fenpei/fenpei/IntList" "values" "[I" (.ref ad) ∧ Fld Z h a "com/example/fenpei/fenpei/IntList" "size" "I" (.int (0 : Int32)) ∧ Ar Z h ad .int 4 (lst [.int (0 : Int32), .int (0 : Int32), .int (0 : Int32), .int (0 : Int32)])
theorem pn_ini : plainFor (⟨"com/example/fenpei/fenpei/IntList", "<init>", "()V"⟩ : MethodName) = true := by first | (refine plainFor_of_name ?_; simp [plainName, overriddenIn]; done) | decide +kernel
set_option maxRecDepth 65536 in
set_option maxHeartbeats 40000000 in
theorem c_ini (l : Launch) (Z : State) (a0 : Array Value) (hw : ∀ d ∈ tables_1, d.before a0 Z = true) (a : Addr) (h0 : Heap) (n0 : Nat) (Z0 : n0 ≤ h0.size) (E_a : Exa Z h0 a "com/example/fenpei/fenpei/IntList") (F_a_values : Fld Z h0 a "com/example/fenpei/fenpei/IntList" "values" "[I" (.null)) (F_a_size : Fld Z h0 a "com/example/fenpei/fenpei/IntList" "size" "I" (.int (0 : Int32))) (g_a : n0 ≤ a) :
    Con l Z (⟨"com/example/fenpei/fenpei/IntList", "<init>", "()V"⟩ : MethodName) prog_21_method_1_code 1 (none : Option FieldType) ({ frames := 1, cells := 1, slots := 4, locals := 12 } : Room) #[(.ref a)] h0 n0 (Q_ini Z a h0) [] := by
  refine con_of_wp pn_ini (L0 := #[.val ((.ref a))]) (fun m => by first | (simp [entryFrame, mkF, argsToLocals, Value.category]; done) | rfl) (fun X hl ok => ?_)
  subst hl
  have hK : Konst Z a0 "com/example/fenpei/fenpei/IntList" k_ini := trivial
  have K0 : Keep h0 h0 [a] := Keep.refl _ _
  refine wp_run ok hK (B := [(0, .aload_n 0, false)]) (by decide +kernel) (pc' := 1) (L' := #[.val ((.ref a))]) (S' := [(.ref a)]) rfl trivial ?_
  refine wp_initO ok (wd hw 6 rfl) (wd hw 7 rfl) (wd hw 8 rfl) (by rfl) (by decide +kernel) (by decide) (Nat.le_of_ble_eq_true rfl) ?_
  refine wp_run ok hK (B := [(4, .aload_n 0, false), (5, .iconst 4, false)]) (by decide +kernel) (pc' := 6) (L' := #[.val ((.ref a))]) (S' := [.int (4 : Int32), (.ref a)]) rfl trivial ?_
  refine wp_nA ok (aty := .int) (wd hw 9 rfl) (by decide +kernel) (cap := 4) (by rfl) (by decide) (by decide) (by decide) ?_
  intro h1 a2 ea3 X4 A5
  have E6 := E_a.ext X4
  have F7 := F_a_values.ext X4
  have F8 := F_a_size.ext X4
  have Z9 : n0 ≤ h1.size := Nat.le_trans Z0 X4.1
  have K10 := K0.ext X4
  have A11 : Ar Z h1 a2 .int 4 (lst [.int (0 : Int32), .int (0 : Int32), .int (0 : Int32), .int (0 : Int32)]) := lst_new A5 rfl
  have g12 : n0 ≤ a2 := by rw [ea3]; exact Z0
  have g13 : h0.size ≤ a2 := by rw [ea3]; exact K0.1
  refine wp_putF ok (wd hw 10 rfl) F7 E6 (Or.inl (wd hw 11 rfl)) (wd hw 1 rfl) (ty := (.array .int)) (by decide) rfl rfl (by decide +kernel) g_a ?_
  intro h14 W15
  have F16 := F7.same W15
  have F17 := F8.other W15 (Or.inr (slot_ne (C := "com/example/fenpei/fenpei/IntList") (a0 := a0) (Or.inl (wd hw 18 rfl)) (Or.inl (wd hw 11 rfl)) (by decide +kernel) (t := .int) (t' := (.array .int)) (by decide +kernel) (by decide +kernel)))
  have A18 := A11.other W15 (Ne.symm (ne_new (E_a.lt) ea3))
  have E19 := E6.wr W15
  have Z20 : n0 ≤ h14.size := by rw [W15.size]; exact Z9
  have K21 := K10.wr W15 (Or.inl (by simp))
  refine wp_retV ok (by decide +kernel) (by decide) (by decide) ?_
  exact ⟨a2, rfl, K21, g13, F16, F17, A18⟩
def k_ad1 : List (Nat × Value) := []
def Q_ad1 (Z : State) (a : Addr) (u : Int32) (ad : Addr) (sz : Int32) (w0 : Int32) (w1 : Int32) (w2 : Int32) (w3 : Int32) (i : Nat) (h0 : Heap) : Post := fun v h => v = none ∧ Keep h0 h [a, ad] ∧ Fld Z h a "com/example/fenpei/fenpei/IntList" "values" "[I" (.ref ad) ∧ Fld Z h a "com/example/fenpei/fenpei/IntList" "size" "I" (.int (sz + (1 : Int32))) ∧ Ar Z h ad .int 4 (lst ([.int w0, .int w1, .int w2, .int w3].set i (.int u)))
theorem own_ad1_1 (u : Int32) (sz : Int32) (w0 : Int32) (w1 : Int32) (w2 : Int32) (w3 : Int32) (i : Nat) (p1 : sz.toInt = (i : Int)) (p2 : i < 4) : ¬ (sz = (4 : Int32)) := by
  intro q; rw [q] at p1; have : (4 : Int32).toInt = 4 := rfl; omega
theorem pn_ad1 : plainFor (⟨"com/example/fenpei/fenpei/IntList", "add", "(I)V"⟩ : MethodName) = true := by first | (refine plainFor_of_name ?_; simp [plainName, overriddenIn]; done) | decide +kernel
set_option maxRecDepth 65536 in
set_option maxHeartbeats 40000000 in
theorem c_ad1 (l : Launch) (Z : State) (a0 : Array Value) (hw : ∀ d ∈ tables_1, d.before a0 Z = true) (a : Addr) (u : Int32) (ad : Addr) (sz : Int32) (w0 : Int32) (w1 : Int32) (w2 : Int32) (w3 : Int32) (i : Nat) (h0 : Heap) (n0 : Nat) (Z0 : n0 ≤ h0.size) (E_a : Exa Z h0 a "com/example/fenpei/fenpei/IntList") (F_a_values : Fld Z h0 a "com/example/fenpei/fenpei/IntList" "values" "[I" ((.ref ad))) (F_a_size : Fld Z h0 a "com/example/fenpei/fenpei/IntList" "size" "I" (.int sz)) (g_a : n0 ≤ a) (A_ad : Ar Z h0 ad .int 4 (lst [.int w0, .int w1, .int w2, .int w3])) (g_ad : n0 ≤ ad) (p1 : sz.toInt = (i : Int)) (p2 : i < 4) :
    Con l Z (⟨"com/example/fenpei/fenpei/IntList", "add", "(I)V"⟩ : MethodName) prog_21_method_2_code 2 (none : Option FieldType) ({ frames := 0, cells := 0, slots := 0, locals := 0 } : Room) #[(.ref a), .int u] h0 n0 (Q_ad1 Z a u ad sz w0 w1 w2 w3 i h0) [] := by
  refine con_of_wp pn_ad1 (L0 := #[.val ((.ref a)), .val (.int u)]) (fun m => by first | (simp [entryFrame, mkF, argsToLocals, Value.category]; done) | rfl) (fun X hl ok => ?_)
  subst hl
  have hK : Konst Z a0 "com/example/fenpei/fenpei/IntList" k_ad1 := trivial
  have ne_a_ad : a ≠ ad := (ne_ar E_a (wd hw 1 rfl) A_ad)
  have K0 : Keep h0 h0 [a, ad] := Keep.refl _ _
  refine wp_run ok hK (B := [(0, .aload_n 0, false)]) (by decide +kernel) (pc' := 1) (L' := #[.val ((.ref a)), .val (.int u)]) (S' := [(.ref a)]) rfl trivial ?_
  refine wp_getF ok (wd hw 17 rfl) F_a_size (by decide +kernel) ?_
  refine wp_run ok hK (B := [(4, .aload_n 0, false)]) (by decide +kernel) (pc' := 5) (L' := #[.val ((.ref a)), .val (.int u)]) (S' := [(.ref a), .int sz]) rfl trivial ?_
  refine wp_getF ok (wd hw 10 rfl) F_a_values (by decide +kernel) ?_
  refine wp_alen ok A_ad (by decide +kernel) ?_
  show WP X n0 (Q_ad1 Z a u ad sz w0 w1 w2 w3 i h0) h0 0 0 9 #[.val ((.ref a)), .val (.int u)] [.int (4 : Int32), .int sz]
  refine wp_run ok hK (B := [(9, .if_icmp .ne 20, true), (29, .aload_n 0, false)]) (by decide +kernel) (pc' := 30) (L' := #[.val ((.ref a)), .val (.int u)]) (S' := [(.ref a)]) rfl ⟨(XT.ii_ne_t (own_ad1_1 u sz w0 w1 w2 w3 i p1 p2)), trivial⟩ ?_
  refine wp_getF ok (wd hw 10 rfl) F_a_values (by decide +kernel) ?_
  refine wp_run ok hK (B := [(33, .aload_n 0, false), (34, .dup, false)]) (by decide +kernel) (pc' := 35) (L' := #[.val ((.ref a)), .val (.int u)]) (S' := [(.ref a), (.ref a), (.ref ad)]) rfl trivial ?_
  refine wp_getF ok (wd hw 17 rfl) F_a_size (by decide +kernel) ?_
  refine wp_run ok hK (B := [(38, .dup_x1, false), (39, .iconst 1, false), (40, .iadd, false)]) (by decide +kernel) (pc' := 41) (L' := #[.val ((.ref a)), .val (.int u)]) (S' := [.int (sz + (1 : Int32)), (.ref a), .int sz, (.ref ad)]) rfl trivial ?_
  refine wp_putF ok (wd hw 17 rfl) F_a_size E_a (Or.inl (wd hw 18 rfl)) (wd hw 1 rfl) (ty := .int) (by decide) rfl rfl (by decide +kernel) g_a ?_
  intro h1 W2
  have F3 := F_a_values.other W2 (Or.inr (slot_ne (C := "com/example/fenpei/fenpei/IntList") (a0 := a0) (Or.inl (wd hw 11 rfl)) (Or.inl (wd hw 18 rfl)) (by decide +kernel) (t := (.array .int)) (t' := .int) (by decide +kernel) (by decide +kernel)))
  have F4 := F_a_size.same W2
  have A5 := A_ad.other W2 (Ne.symm ne_a_ad)
  have E6 := E_a.wr W2
  have Z7 : n0 ≤ h1.size := by rw [W2.size]; exact Z0
  have K8 := K0.wr W2 (Or.inl (by simp))
  refine wp_run ok hK (B := [(44, .iload_n 1, false)]) (by decide +kernel) (pc' := 45) (L' := #[.val ((.ref a)), .val (.int u)]) (S' := [.int u, .int sz, (.ref ad)]) rfl trivial ?_
  refine wp_sI ok A5 (i := i) p1 p2 (by decide +kernel) g_ad ?_
  intro h9 W10 A11
  have A12 : Ar Z h9 ad .int 4 (lst ([.int w0, .int w1, .int w2, .int w3].set i (.int u))) := lst_set A11 rfl p2 rfl
  have F13 := F3.other W10 (Or.inl ne_a_ad)
  have F14 := F4.other W10 (Or.inl ne_a_ad)
  have E15 := E6.wr W10
  have Z16 : n0 ≤ h9.size := by rw [W10.size]; exact Z7
  have K17 := K8.wr W10 (Or.inl (by simp))
  refine wp_retV ok (by decide +kernel) (by decide) (by decide) ?_
  exact ⟨rfl, K17, F13, F14, A12⟩
def k_ad2 : List (Nat × Value) := []
def Q_ad2 (Z : State) (a : Addr) (u : Int32) (ad : Addr) (w0 : Int32) (w1 : Int32) (w2 : Int32) (w3 : Int32) (h0 : Heap) : Post := fun v h => ∃ r : Addr, v = none ∧ Keep h0 h [a] ∧ h0.size ≤ r ∧ Fld Z h a "com/example/fenpei/fenpei/IntList" "values" "[I" (.ref r) ∧ Fld Z h a "com/example/fenpei/fenpei/IntList" "size" "I" (.int (5 : Int32)) ∧ Ar Z h r .int 8 (lst [.int w0, .int w1, .int w2, .int w3, .int u, .int (0 : Int32), .int (0 : Int32), .int (0 : Int32)])
theorem pn_ad2 : plainFor (⟨"com/example/fenpei/fenpei/IntList", "add", "(I)V"⟩ : MethodName) = true := by first | (refine plainFor_of_name ?_; simp [plainName, overriddenIn]; done) | decide +kernel
set_option maxRecDepth 65536 in
set_option maxHeartbeats 40000000 in
theorem c_ad2 (l : Launch) (Z : State) (a0 : Array Value) (hw : ∀ d ∈ tables_1, d.before a0 Z = true) (a : Addr) (u : Int32) (ad : Addr) (w0 : Int32) (w1 : Int32) (w2 : Int32) (w3 : Int32) (h0 : Heap) (n0 : Nat) (Z0 : n0 ≤ h0.size) (E_a : Exa Z h0 a "com/example/fenpei/fenpei/IntList") (F_a_values : Fld Z h0 a "com/example/fenpei/fenpei/IntList" "values" "[I" ((.ref ad))) (F_a_size : Fld Z h0 a "com/example/fenpei/fenpei/IntList" "size" "I" (.int (4 : Int32))) (g_a : n0 ≤ a) (A_ad : Ar Z h0 ad .int 4 (lst [.int w0, .int w1, .int w2, .int w3])) (g_ad : n0 ≤ ad) :
    Con l Z (⟨"com/example/fenpei/fenpei/IntList", "add", "(I)V"⟩ : MethodName) prog_21_method_2_code 2 (none : Option FieldType) ({ frames := 2, cells := 1, slots := 8, locals := 33 } : Room) #[(.ref a), .int u] h0 n0 (Q_ad2 Z a u ad w0 w1 w2 w3 h0) [] := by
  refine con_of_wp pn_ad2 (L0 := #[.val ((.ref a)), .val (.int u)]) (fun m => by first | (simp [entryFrame, mkF, argsToLocals, Value.category]; done) | rfl) (fun X hl ok => ?_)
  subst hl
  have hK : Konst Z a0 "com/example/fenpei/fenpei/IntList" k_ad2 := trivial
  have ne_a_ad : a ≠ ad := (ne_ar E_a (wd hw 1 rfl) A_ad)
  have K0 : Keep h0 h0 [a] := Keep.refl _ _
  refine wp_run ok hK (B := [(0, .aload_n 0, false)]) (by decide +kernel) (pc' := 1) (L' := #[.val ((.ref a)), .val (.int u)]) (S' := [(.ref a)]) rfl trivial ?_
  refine wp_getF ok (wd hw 17 rfl) F_a_size (by decide +kernel) ?_
  refine wp_run ok hK (B := [(4, .aload_n 0, false)]) (by decide +kernel) (pc' := 5) (L' := #[.val ((.ref a)), .val (.int u)]) (S' := [(.ref a), .int (4 : Int32)]) rfl trivial ?_
  refine wp_getF ok (wd hw 10 rfl) F_a_values (by decide +kernel) ?_
  refine wp_alen ok A_ad (by decide +kernel) ?_
  show WP X n0 (Q_ad2 Z a u ad w0 w1 w2 w3 h0) h0 0 0 9 #[.val ((.ref a)), .val (.int u)] [.int (4 : Int32), .int (4 : Int32)]
  refine wp_run ok hK (B := [(9, .if_icmp .ne 20, false), (12, .aload_n 0, false), (13, .aload_n 0, false)]) (by decide +kernel) (pc' := 14) (L' := #[.val ((.ref a)), .val (.int u)]) (S' := [(.ref a), (.ref a)]) rfl ⟨(XT.ii_ne_f (by decide)), trivial⟩ ?_
  refine wp_getF ok (wd hw 10 rfl) F_a_values (by decide +kernel) ?_
  refine wp_run ok hK (B := [(17, .aload_n 0, false)]) (by decide +kernel) (pc' := 18) (L' := #[.val ((.ref a)), .val (.int u)]) (S' := [(.ref a), (.ref ad), (.ref a)]) rfl trivial ?_
  refine wp_getF ok (wd hw 17 rfl) F_a_size (by decide +kernel) ?_
  refine wp_run ok hK (B := [(21, .iconst 2, false), (22, .imul, false)]) (by decide +kernel) (pc' := 23) (L' := #[.val ((.ref a)), .val (.int u)]) (S' := [.int (8 : Int32), (.ref ad), (.ref a)]) rfl trivial ?_
  refine wp_static ok (wd hw 33 rfl) (wd hw 34 rfl) (wd hw 35 rfl) (wd hw 36 rfl) (by decide) (argsL := [(.ref ad), .int (8 : Int32)]) (rest := [(.ref a)]) (c_cpy _ Z a0 hw ad w0 w1 w2 w3 h0 n0 Z0 A_ad g_ad) (ps := [(.array .int), .int]) (by decide +kernel) (by rfl) (by rfl) (by rfl) (by decide +kernel) (by decide) (Nat.le_of_ble_eq_true rfl) (by decide) (by decide) ?_
  intro r5 h6 q7
  obtain ⟨a1, rfl, K2, g3, A4⟩ := q7
  have E8 := E_a.keep K2
  have F9 := F_a_values.keep K2 (by simp only [List.mem_cons, List.not_mem_nil, or_false, not_or]; exact not_false)
  have F10 := F_a_size.keep K2 (by simp only [List.mem_cons, List.not_mem_nil, or_false, not_or]; exact not_false)
  have A11 := A_ad.keep K2 (by simp only [List.mem_cons, List.not_mem_nil, or_false, not_or]; exact not_false)
  have Z12 : n0 ≤ h6.size := Nat.le_trans Z0 K2.1
  have K13 := K0.trans K2 all0
  have g14 : n0 ≤ a1 := Nat.le_trans Z0 g3
  have N15 : a ≠ a1 := Nat.ne_of_lt (Nat.lt_of_lt_of_le (E_a.lt) g3)
  have N16 : ad ≠ a1 := Nat.ne_of_lt (Nat.lt_of_lt_of_le (A_ad.lt) g3)
  show WP X n0 (Q_ad2 Z a u ad w0 w1 w2 w3 h0) h6 1 8 26 #[.val ((.ref a)), .val (.int u)] [(.ref a1), (.ref a)]
  refine wp_putF ok (wd hw 10 rfl) F9 E8 (Or.inl (wd hw 11 rfl)) (wd hw 1 rfl) (ty := (.array .int)) (by decide) rfl rfl (by decide +kernel) g_a ?_
  intro h17 W18
  have F19 := F9.same W18
  have F20 := F10.other W18 (Or.inr (slot_ne (C := "com/example/fenpei/fenpei/IntList") (a0 := a0) (Or.inl (wd hw 18 rfl)) (Or.inl (wd hw 11 rfl)) (by decide +kernel) (t := .int) (t' := (.array .int)) (by decide +kernel) (by decide +kernel)))
  have A21 := A11.other W18 (Ne.symm ne_a_ad)
  have A22 := A4.other W18 (Ne.symm N15)
  have E23 := E8.wr W18
  have Z24 : n0 ≤ h17.size := by rw [W18.size]; exact Z12
  have K25 := K13.wr W18 (Or.inl (by simp))
  refine wp_run ok hK (B := [(29, .aload_n 0, false)]) (by decide +kernel) (pc' := 30) (L' := #[.val ((.ref a)), .val (.int u)]) (S' := [(.ref a)]) rfl trivial ?_
  refine wp_getF ok (wd hw 10 rfl) F19 (by decide +kernel) ?_
  refine wp_run ok hK (B := [(33, .aload_n 0, false), (34, .dup, false)]) (by decide +kernel) (pc' := 35) (L' := #[.val ((.ref a)), .val (.int u)]) (S' := [(.ref a), (.ref a), (.ref a1)]) rfl trivial ?_
  refine wp_getF ok (wd hw 17 rfl) F20 (by decide +kernel) ?_
  refine wp_run ok hK (B := [(38, .dup_x1, false), (39, .iconst 1, false), (40, .iadd, false)]) (by decide +kernel) (pc' := 41) (L' := #[.val ((.ref a)), .val (.int u)]) (S' := [.int (5 : Int32), (.ref a), .int (4 : Int32), (.ref a1)]) rfl trivial ?_
  refine wp_putF ok (wd hw 17 rfl) F20 E23 (Or.inl (wd hw 18 rfl)) (wd hw 1 rfl) (ty := .int) (by decide) rfl rfl (by decide +kernel) g_a ?_
  intro h26 W27
  have F28 := F19.other W27 (Or.inr (slot_ne (C := "com/example/fenpei/fenpei/IntList") (a0 := a0) (Or.inl (wd hw 11 rfl)) (Or.inl (wd hw 18 rfl)) (by decide +kernel) (t := (.array .int)) (t' := .int) (by decide +kernel) (by decide +kernel)))
  have F29 := F20.same W27
  have A30 := A21.other W27 (Ne.symm ne_a_ad)
  have A31 := A22.other W27 (Ne.symm N15)
  have E32 := E23.wr W27
  have Z33 : n0 ≤ h26.size := by rw [W27.size]; exact Z24
  have K34 := K25.wr W27 (Or.inl (by simp))
  refine wp_run ok hK (B := [(44, .iload_n 1, false)]) (by decide +kernel) (pc' := 45) (L' := #[.val ((.ref a)), .val (.int u)]) (S' := [.int u, .int (4 : Int32), (.ref a1)]) rfl trivial ?_
  refine wp_sI ok A31 (i := 4) (by rfl) (by decide) (by decide +kernel) g14 ?_
  intro h35 W36 A37
  have A38 : Ar Z h35 a1 .int 8 (lst [.int w0, .int w1, .int w2, .int w3, .int u, .int (0 : Int32), .int (0 : Int32), .int (0 : Int32)]) := lst_set A37 rfl (by decide) rfl
  have F39 := F28.other W36 (Or.inl N15)
  have F40 := F29.other W36 (Or.inl N15)
  have A41 := A30.other W36 N16
  have E42 := E32.wr W36
  have Z43 : n0 ≤ h35.size := by rw [W36.size]; exact Z33
  have K44 := K34.wr W36 (Or.inr (Nat.le_trans K0.1 g3))
  refine wp_retV ok (by decide +kernel) (by decide) (by decide) ?_
  exact ⟨a1, rfl, K44, (Nat.le_trans K0.1 g3), F39, F40, A38⟩
def k_rem : List (Nat × Value) := []
def Q_rem (Z : State) (a : Addr) (ad : Addr) (sz : Int32) (n : Nat) (i : Nat) (f : Nat → Value) (w : Int32) (h0 : Heap) : Post := fun v h => v = some (.int w) ∧ Keep h0 h [a] ∧ Fld Z h a "com/example/fenpei/fenpei/IntList" "values" "[I" ((.ref ad)) ∧ Fld Z h a "com/example/fenpei/fenpei/IntList" "size" "I" (.int (sz - (1 : Int32)))
theorem pn_rem : plainFor (⟨"com/example/fenpei/fenpei/IntList", "removeLast", "()I"⟩ : MethodName) = true := by first | (refine plainFor_of_name ?_; simp [plainName, overriddenIn]; done) | decide +kernel
set_option maxRecDepth 65536 in
set_option maxHeartbeats 40000000 in
theorem c_rem (l : Launch) (Z : State) (a0 : Array Value) (hw : ∀ d ∈ tables_1, d.before a0 Z = true) (a : Addr) (ad : Addr) (sz : Int32) (n : Nat) (i : Nat) (f : Nat → Value) (w : Int32) (h0 : Heap) (n0 : Nat) (Z0 : n0 ≤ h0.size) (E_a : Exa Z h0 a "com/example/fenpei/fenpei/IntList") (F_a_values : Fld Z h0 a "com/example/fenpei/fenpei/IntList" "values" "[I" ((.ref ad))) (F_a_size : Fld Z h0 a "com/example/fenpei/fenpei/IntList" "size" "I" (.int sz)) (g_a : n0 ≤ a) (A_ad : Ar Z h0 ad .int n f) (p1 : (sz - (1 : Int32)).toInt = (i : Int)) (p2 : i < n) (p3 : f i = .int w) :
    Con l Z (⟨"com/example/fenpei/fenpei/IntList", "removeLast", "()I"⟩ : MethodName) prog_21_method_5_code 1 (some .int) ({ frames := 0, cells := 0, slots := 0, locals := 0 } : Room) #[(.ref a)] h0 n0 (Q_rem Z a ad sz n i f w h0) [] := by
  refine con_of_wp pn_rem (L0 := #[.val ((.ref a))]) (fun m => by first | (simp [entryFrame, mkF, argsToLocals, Value.category]; done) | rfl) (fun X hl ok => ?_)
  subst hl
  have hK : Konst Z a0 "com/example/fenpei/fenpei/IntList" k_rem := trivial
  have ne_a_ad : a ≠ ad := ne_ar E_a (wd hw 1 rfl) A_ad
  have K0 : Keep h0 h0 [a] := Keep.refl _ _
  refine wp_run ok hK (B := [(0, .aload_n 0, false)]) (by decide +kernel) (pc' := 1) (L' := #[.val ((.ref a))]) (S' := [(.ref a)]) rfl trivial ?_
  refine wp_getF ok (wd hw 10 rfl) F_a_values (by decide +kernel) ?_
  refine wp_run ok hK (B := [(4, .aload_n 0, false), (5, .dup, false)]) (by decide +kernel) (pc' := 6) (L' := #[.val ((.ref a))]) (S' := [(.ref a), (.ref a), (.ref ad)]) rfl trivial ?_
  refine wp_getF ok (wd hw 17 rfl) F_a_size (by decide +kernel) ?_
  refine wp_run ok hK (B := [(9, .iconst 1, false), (10, .isub, false), (11, .dup_x1, false)]) (by decide +kernel) (pc' := 12) (L' := #[.val ((.ref a))]) (S' := [.int (sz - (1 : Int32)), (.ref a), .int (sz - (1 : Int32)), (.ref ad)]) rfl trivial ?_
  refine wp_putF ok (wd hw 17 rfl) F_a_size E_a (Or.inl (wd hw 18 rfl)) (wd hw 1 rfl) (ty := .int) (by decide) rfl rfl (by decide +kernel) g_a ?_
  intro h1 W2
  have F3 := F_a_values.other W2 (Or.inr (slot_ne (C := "com/example/fenpei/fenpei/IntList") (a0 := a0) (Or.inl (wd hw 11 rfl)) (Or.inl (wd hw 18 rfl)) (by decide +kernel) (t := (.array .int)) (t' := .int) (by decide +kernel) (by decide +kernel)))
  have F4 := F_a_size.same W2
  have A5 := A_ad.other W2 (Ne.symm ne_a_ad)
  have E6 := E_a.wr W2
  have Z7 : n0 ≤ h1.size := by rw [W2.size]; exact Z0
  have K8 := K0.wr W2 (Or.inl (by simp))
  refine wp_aI ok A5 (i := i) p1 p2 p3 (by decide +kernel) ?_
  refine wp_retI ok (by decide +kernel) (by decide) (by decide) ?_
  exact ⟨rfl, K8, F3, F4⟩
def k_siz : List (Nat × Value) := []
def Q_siz (Z : State) (a : Addr) (sz : Int32) (h0 : Heap) : Post := fun v h => v = some (.int sz) ∧ h0 = h
theorem pn_siz : plainFor (⟨"com/example/fenpei/fenpei/IntList", "size", "()I"⟩ : MethodName) = true := by first | (refine plainFor_of_name ?_; simp [plainName, overriddenIn]; done) | decide +kernel
set_option maxRecDepth 65536 in
set_option maxHeartbeats 40000000 in
theorem c_siz (l : Launch) (Z : State) (a0 : Array Value) (hw : ∀ d ∈ tables_1, d.before a0 Z = true) (a : Addr) (sz : Int32) (h0 : Heap) (n0 : Nat) (Z0 : n0 ≤ h0.size) (E_a : Exa Z h0 a "com/example/fenpei/fenpei/IntList") (F_a_size : Fld Z h0 a "com/example/fenpei/fenpei/IntList" "size" "I" (.int sz)) (g_a : n0 ≤ a) :
    Con l Z (⟨"com/example/fenpei/fenpei/IntList", "size", "()I"⟩ : MethodName) prog_21_method_7_code 1 (some .int) ({ frames := 0, cells := 0, slots := 0, locals := 0 } : Room) #[(.ref a)] h0 n0 (Q_siz Z a sz h0) [] := by
  refine con_of_wp pn_siz (L0 := #[.val ((.ref a))]) (fun m => by first | (simp [entryFrame, mkF, argsToLocals, Value.category]; done) | rfl) (fun X hl ok => ?_)
  subst hl
  have hK : Konst Z a0 "com/example/fenpei/fenpei/IntList" k_siz := trivial
  refine wp_run ok hK (B := [(0, .aload_n 0, false)]) (by decide +kernel) (pc' := 1) (L' := #[.val ((.ref a))]) (S' := [(.ref a)]) rfl trivial ?_
  refine wp_getF ok (wd hw 17 rfl) F_a_size (by decide +kernel) ?_
  refine wp_retI ok (by decide +kernel) (by decide) (by decide) ?_
  exact ⟨rfl, rfl⟩
def k_pick : List (Nat × Value) := []
def Q_pick (Z : State) (i : Int32) (a : Int32) (b : Int32) (d : Int32) (e : Int32) (f : Int32) (h0 : Heap) : Post := fun v h => v = some (.int (if i = (0 : Int32) then a else (if i = (1 : Int32) then b else (if i = (2 : Int32) then d else (if i = (3 : Int32) then e else f))))) ∧ h0 = h
theorem own_pick_1 (i : Int32) (a : Int32) (b : Int32) (d : Int32) (e : Int32) (f : Int32) (hc1 : i = (0 : Int32)) : a = (if i = (0 : Int32) then a else (if i = (1 : Int32) then b else (if i = (2 : Int32) then d else (if i = (3 : Int32) then e else f)))) := by
  simp [*]
theorem own_pick_2 (i : Int32) (a : Int32) (b : Int32) (d : Int32) (e : Int32) (f : Int32) (hc1 : ¬ (i = (0 : Int32))) (hc8 : i = (1 : Int32)) : b = (if i = (0 : Int32) then a else (if i = (1 : Int32) then b else (if i = (2 : Int32) then d else (if i = (3 : Int32) then e else f)))) := by
  simp [*]
theorem own_pick_3 (i : Int32) (a : Int32) (b : Int32) (d : Int32) (e : Int32) (f : Int32) (hc1 : ¬ (i = (0 : Int32))) (hc8 : ¬ (i = (1 : Int32))) (hc15 : i = (2 : Int32)) : d = (if i = (0 : Int32) then a else (if i = (1 : Int32) then b else (if i = (2 : Int32) then d else (if i = (3 : Int32) then e else f)))) := by
  simp [*]
theorem own_pick_4 (i : Int32) (a : Int32) (b : Int32) (d : Int32) (e : Int32) (f : Int32) (hc1 : ¬ (i = (0 : Int32))) (hc8 : ¬ (i = (1 : Int32))) (hc15 : ¬ (i = (2 : Int32))) (hc22 : i = (3 : Int32)) : e = (if i = (0 : Int32) then a else (if i = (1 : Int32) then b else (if i = (2 : Int32) then d else (if i = (3 : Int32) then e else f)))) := by
  simp [*]
theorem own_pick_5 (i : Int32) (a : Int32) (b : Int32) (d : Int32) (e : Int32) (f : Int32) (hc1 : ¬ (i = (0 : Int32))) (hc8 : ¬ (i = (1 : Int32))) (hc15 : ¬ (i = (2 : Int32))) (hc22 : ¬ (i = (3 : Int32))) : f = (if i = (0 : Int32) then a else (if i = (1 : Int32) then b else (if i = (2 : Int32) then d else (if i = (3 : Int32) then e else f)))) := by
  simp [*]
theorem pn_pick : plainFor (⟨"com/example/fenpei/fenpei/IntListRemoveLastPinLaw", "pick", "(IIIIII)I"⟩ : MethodName) = true := by first | (refine plainFor_of_name ?_; simp [plainName, overriddenIn]; done) | decide +kernel
set_option maxRecDepth 65536 in
set_option maxHeartbeats 40000000 in
theorem c_pick (l : Launch) (Z : State) (a0 : Array Value) (hw : ∀ d ∈ tables_1, d.before a0 Z = true) (i : Int32) (a : Int32) (b : Int32) (d : Int32) (e : Int32) (f : Int32) (h0 : Heap) (n0 : Nat) (Z0 : n0 ≤ h0.size) :
    Con l Z (⟨"com/example/fenpei/fenpei/IntListRemoveLastPinLaw", "pick", "(IIIIII)I"⟩ : MethodName) method_2_code 6 (some .int) ({ frames := 0, cells := 0, slots := 0, locals := 0 } : Room) #[.int i, .int a, .int b, .int d, .int e, .int f] h0 n0 (Q_pick Z i a b d e f h0) [] := by
  refine con_of_wp pn_pick (L0 := #[.val (.int i), .val (.int a), .val (.int b), .val (.int d), .val (.int e), .val (.int f)]) (fun m => by first | (simp [entryFrame, mkF, argsToLocals, Value.category]; done) | rfl) (fun X hl ok => ?_)
  subst hl
  have hK : Konst Z a0 "com/example/fenpei/fenpei/IntListRemoveLastPinLaw" k_pick := trivial
  refine wp_run ok hK (B := [(0, .iload_n 0, false)]) (by decide +kernel) (pc' := 1) (L' := #[.val (.int i), .val (.int a), .val (.int b), .val (.int d), .val (.int e), .val (.int f)]) (S' := [.int i]) rfl trivial ?_
  by_cases hc1 : i = (0 : Int32)
  · refine wp_run ok hK (B := [(1, .ifCond .ne 5, false)]) (by decide +kernel) (pc' := 4) (L' := #[.val (.int i), .val (.int a), .val (.int b), .val (.int d), .val (.int e), .val (.int f)]) (S' := []) rfl ⟨(XT.i0_ne_f hc1), trivial⟩ ?_
    refine wp_run ok hK (B := [(4, .iload_n 1, false)]) (by decide +kernel) (pc' := 5) (L' := #[.val (.int i), .val (.int a), .val (.int b), .val (.int d), .val (.int e), .val (.int f)]) (S' := [.int a]) rfl trivial ?_
    refine wp_retI ok (by decide +kernel) (by decide) (by decide) ?_
    exact ⟨congrArg (fun z => some (Value.int z)) (own_pick_1 i a b d e f hc1), rfl⟩
  · refine wp_run ok hK (B := [(1, .ifCond .ne 5, true)]) (by decide +kernel) (pc' := 6) (L' := #[.val (.int i), .val (.int a), .val (.int b), .val (.int d), .val (.int e), .val (.int f)]) (S' := []) rfl ⟨(XT.i0_ne_t hc1), trivial⟩ ?_
    refine wp_run ok hK (B := [(6, .iload_n 0, false), (7, .iconst 1, false)]) (by decide +kernel) (pc' := 8) (L' := #[.val (.int i), .val (.int a), .val (.int b), .val (.int d), .val (.int e), .val (.int f)]) (S' := [.int (1 : Int32), .int i]) rfl trivial ?_
    by_cases hc8 : i = (1 : Int32)
    · refine wp_run ok hK (B := [(8, .if_icmp .ne 5, false)]) (by decide +kernel) (pc' := 11) (L' := #[.val (.int i), .val (.int a), .val (.int b), .val (.int d), .val (.int e), .val (.int f)]) (S' := []) rfl ⟨(XT.ii_ne_f hc8), trivial⟩ ?_
      refine wp_run ok hK (B := [(11, .iload_n 2, false)]) (by decide +kernel) (pc' := 12) (L' := #[.val (.int i), .val (.int a), .val (.int b), .val (.int d), .val (.int e), .val (.int f)]) (S' := [.int b]) rfl trivial ?_
      refine wp_retI ok (by decide +kernel) (by decide) (by decide) ?_
      exact ⟨congrArg (fun z => some (Value.int z)) (own_pick_2 i a b d e f hc1 hc8), rfl⟩
    · refine wp_run ok hK (B := [(8, .if_icmp .ne 5, true)]) (by decide +kernel) (pc' := 13) (L' := #[.val (.int i), .val (.int a), .val (.int b), .val (.int d), .val (.int e), .val (.int f)]) (S' := []) rfl ⟨(XT.ii_ne_t hc8), trivial⟩ ?_
      refine wp_run ok hK (B := [(13, .iload_n 0, false), (14, .iconst 2, false)]) (by decide +kernel) (pc' := 15) (L' := #[.val (.int i), .val (.int a), .val (.int b), .val (.int d), .val (.int e), .val (.int f)]) (S' := [.int (2 : Int32), .int i]) rfl trivial ?_
      by_cases hc15 : i = (2 : Int32)
      · refine wp_run ok hK (B := [(15, .if_icmp .ne 5, false)]) (by decide +kernel) (pc' := 18) (L' := #[.val (.int i), .val (.int a), .val (.int b), .val (.int d), .val (.int e), .val (.int f)]) (S' := []) rfl ⟨(XT.ii_ne_f hc15), trivial⟩ ?_
        refine wp_run ok hK (B := [(18, .iload_n 3, false)]) (by decide +kernel) (pc' := 19) (L' := #[.val (.int i), .val (.int a), .val (.int b), .val (.int d), .val (.int e), .val (.int f)]) (S' := [.int d]) rfl trivial ?_
        refine wp_retI ok (by decide +kernel) (by decide) (by decide) ?_
        exact ⟨congrArg (fun z => some (Value.int z)) (own_pick_3 i a b d e f hc1 hc8 hc15), rfl⟩
      · refine wp_run ok hK (B := [(15, .if_icmp .ne 5, true)]) (by decide +kernel) (pc' := 20) (L' := #[.val (.int i), .val (.int a), .val (.int b), .val (.int d), .val (.int e), .val (.int f)]) (S' := []) rfl ⟨(XT.ii_ne_t hc15), trivial⟩ ?_
        refine wp_run ok hK (B := [(20, .iload_n 0, false), (21, .iconst 3, false)]) (by decide +kernel) (pc' := 22) (L' := #[.val (.int i), .val (.int a), .val (.int b), .val (.int d), .val (.int e), .val (.int f)]) (S' := [.int (3 : Int32), .int i]) rfl trivial ?_
        by_cases hc22 : i = (3 : Int32)
        · refine wp_run ok hK (B := [(22, .if_icmp .ne 6, false)]) (by decide +kernel) (pc' := 25) (L' := #[.val (.int i), .val (.int a), .val (.int b), .val (.int d), .val (.int e), .val (.int f)]) (S' := []) rfl ⟨(XT.ii_ne_f hc22), trivial⟩ ?_
          refine wp_run ok hK (B := [(25, .iload 4, false)]) (by decide +kernel) (pc' := 27) (L' := #[.val (.int i), .val (.int a), .val (.int b), .val (.int d), .val (.int e), .val (.int f)]) (S' := [.int e]) rfl trivial ?_
          refine wp_retI ok (by decide +kernel) (by decide) (by decide) ?_
          exact ⟨congrArg (fun z => some (Value.int z)) (own_pick_4 i a b d e f hc1 hc8 hc15 hc22), rfl⟩
        · refine wp_run ok hK (B := [(22, .if_icmp .ne 6, true)]) (by decide +kernel) (pc' := 28) (L' := #[.val (.int i), .val (.int a), .val (.int b), .val (.int d), .val (.int e), .val (.int f)]) (S' := []) rfl ⟨(XT.ii_ne_t hc22), trivial⟩ ?_
          refine wp_run ok hK (B := [(28, .iload 5, false)]) (by decide +kernel) (pc' := 30) (L' := #[.val (.int i), .val (.int a), .val (.int b), .val (.int d), .val (.int e), .val (.int f)]) (S' := [.int f]) rfl trivial ?_
          refine wp_retI ok (by decide +kernel) (by decide) (by decide) ?_
          exact ⟨congrArg (fun z => some (Value.int z)) (own_pick_5 i a b d e f hc1 hc8 hc15 hc22), rfl⟩
def k_law : List (Nat × Value) := []
def QL : Post := fun v _ => v = some (.int 1)
theorem own_law_1 (a : Int32) (b : Int32) (cc : Int32) (d : Int32) (e : Int32) (nn : Int32) (ct : Int32) (h_ct : ct = (((nn &&& (7 : Int32)) % (5 : Int32)) + (1 : Int32))) (hc29 : ct < (2 : Int32)) : ct < (3 : Int32) := by
  have q := own_ct nn ct h_ct
  clear h_ct
  rcases q with q | q | q | q | q <;> subst q <;> simp_all [nar]
theorem own_law_2 (a : Int32) (b : Int32) (cc : Int32) (d : Int32) (e : Int32) (nn : Int32) (ct : Int32) (h_ct : ct = (((nn &&& (7 : Int32)) % (5 : Int32)) + (1 : Int32))) (hc29 : ct < (2 : Int32)) : ct < (4 : Int32) := by
  have q := own_ct nn ct h_ct
  clear h_ct
  rcases q with q | q | q | q | q <;> subst q <;> simp_all [nar]
theorem own_law_3 (a : Int32) (b : Int32) (cc : Int32) (d : Int32) (e : Int32) (nn : Int32) (ct : Int32) (h_ct : ct = (((nn &&& (7 : Int32)) % (5 : Int32)) + (1 : Int32))) (hc29 : ct < (2 : Int32)) : ct < (5 : Int32) := by
  have q := own_ct nn ct h_ct
  clear h_ct
  rcases q with q | q | q | q | q <;> subst q <;> simp_all [nar]
theorem own_law_4 (a : Int32) (b : Int32) (cc : Int32) (d : Int32) (e : Int32) (nn : Int32) (ct : Int32) (h_ct : ct = (((nn &&& (7 : Int32)) % (5 : Int32)) + (1 : Int32))) (hc29 : ct < (2 : Int32)) (z94 : Int32) (h_z94 : z94 = (if (ct - (1 : Int32)) = (0 : Int32) then a else (if (ct - (1 : Int32)) = (1 : Int32) then b else (if (ct - (1 : Int32)) = (2 : Int32) then cc else (if (ct - (1 : Int32)) = (3 : Int32) then d else e))))) : a = z94 := by
  have q := own_ct nn ct h_ct
  clear h_ct
  rcases q with q | q | q | q | q <;> subst q <;> simp_all [nar]
theorem own_law_5 (a : Int32) (b : Int32) (cc : Int32) (d : Int32) (e : Int32) (nn : Int32) (ct : Int32) (h_ct : ct = (((nn &&& (7 : Int32)) % (5 : Int32)) + (1 : Int32))) (hc29 : ct < (2 : Int32)) (z94 : Int32) (h_z94 : z94 = (if (ct - (1 : Int32)) = (0 : Int32) then a else (if (ct - (1 : Int32)) = (1 : Int32) then b else (if (ct - (1 : Int32)) = (2 : Int32) then cc else (if (ct - (1 : Int32)) = (3 : Int32) then d else e))))) : (0 : Int32) = (ct - (1 : Int32)) := by
  have q := own_ct nn ct h_ct
  clear h_ct
  rcases q with q | q | q | q | q <;> subst q <;> simp_all [nar]
theorem own_law_6 (a : Int32) (b : Int32) (cc : Int32) (d : Int32) (e : Int32) (nn : Int32) (ct : Int32) (h_ct : ct = (((nn &&& (7 : Int32)) % (5 : Int32)) + (1 : Int32))) (hc29 : ct < (2 : Int32)) (z94 : Int32) (h_z94 : z94 = (if (ct - (1 : Int32)) = (0 : Int32) then a else (if (ct - (1 : Int32)) = (1 : Int32) then b else (if (ct - (1 : Int32)) = (2 : Int32) then cc else (if (ct - (1 : Int32)) = (3 : Int32) then d else e))))) : nar .boolean (1 : Int32) = 1 := by
  rfl
theorem own_law_7 (a : Int32) (b : Int32) (cc : Int32) (d : Int32) (e : Int32) (nn : Int32) (ct : Int32) (h_ct : ct = (((nn &&& (7 : Int32)) % (5 : Int32)) + (1 : Int32))) (hc29 : ¬ (ct < (2 : Int32))) (hc41 : ct < (3 : Int32)) : ct < (4 : Int32) := by
  have q := own_ct nn ct h_ct
  clear h_ct
  rcases q with q | q | q | q | q <;> subst q <;> simp_all [nar]
theorem own_law_8 (a : Int32) (b : Int32) (cc : Int32) (d : Int32) (e : Int32) (nn : Int32) (ct : Int32) (h_ct : ct = (((nn &&& (7 : Int32)) % (5 : Int32)) + (1 : Int32))) (hc29 : ¬ (ct < (2 : Int32))) (hc41 : ct < (3 : Int32)) : ct < (5 : Int32) := by
  have q := own_ct nn ct h_ct
  clear h_ct
  rcases q with q | q | q | q | q <;> subst q <;> simp_all [nar]
theorem own_law_9 (a : Int32) (b : Int32) (cc : Int32) (d : Int32) (e : Int32) (nn : Int32) (ct : Int32) (h_ct : ct = (((nn &&& (7 : Int32)) % (5 : Int32)) + (1 : Int32))) (hc29 : ¬ (ct < (2 : Int32))) (hc41 : ct < (3 : Int32)) (z94 : Int32) (h_z94 : z94 = (if (ct - (1 : Int32)) = (0 : Int32) then a else (if (ct - (1 : Int32)) = (1 : Int32) then b else (if (ct - (1 : Int32)) = (2 : Int32) then cc else (if (ct - (1 : Int32)) = (3 : Int32) then d else e))))) : b = z94 := by
  have q := own_ct nn ct h_ct
  clear h_ct
  rcases q with q | q | q | q | q <;> subst q <;> simp_all [nar]
theorem own_law_10 (a : Int32) (b : Int32) (cc : Int32) (d : Int32) (e : Int32) (nn : Int32) (ct : Int32) (h_ct : ct = (((nn &&& (7 : Int32)) % (5 : Int32)) + (1 : Int32))) (hc29 : ¬ (ct < (2 : Int32))) (hc41 : ct < (3 : Int32)) (z94 : Int32) (h_z94 : z94 = (if (ct - (1 : Int32)) = (0 : Int32) then a else (if (ct - (1 : Int32)) = (1 : Int32) then b else (if (ct - (1 : Int32)) = (2 : Int32) then cc else (if (ct - (1 : Int32)) = (3 : Int32) then d else e))))) : (1 : Int32) = (ct - (1 : Int32)) := by
  have q := own_ct nn ct h_ct
  clear h_ct
  rcases q with q | q | q | q | q <;> subst q <;> simp_all [nar]
theorem own_law_11 (a : Int32) (b : Int32) (cc : Int32) (d : Int32) (e : Int32) (nn : Int32) (ct : Int32) (h_ct : ct = (((nn &&& (7 : Int32)) % (5 : Int32)) + (1 : Int32))) (hc29 : ¬ (ct < (2 : Int32))) (hc41 : ct < (3 : Int32)) (z94 : Int32) (h_z94 : z94 = (if (ct - (1 : Int32)) = (0 : Int32) then a else (if (ct - (1 : Int32)) = (1 : Int32) then b else (if (ct - (1 : Int32)) = (2 : Int32) then cc else (if (ct - (1 : Int32)) = (3 : Int32) then d else e))))) (z143 : Int32) (h_z143 : z143 = (if (ct - (2 : Int32)) = (0 : Int32) then a else (if (ct - (2 : Int32)) = (1 : Int32) then b else (if (ct - (2 : Int32)) = (2 : Int32) then cc else (if (ct - (2 : Int32)) = (3 : Int32) then d else e))))) : a = z143 := by
  have q := own_ct nn ct h_ct
  clear h_ct
  rcases q with q | q | q | q | q <;> subst q <;> simp_all [nar]
theorem own_law_12 (a : Int32) (b : Int32) (cc : Int32) (d : Int32) (e : Int32) (nn : Int32) (ct : Int32) (h_ct : ct = (((nn &&& (7 : Int32)) % (5 : Int32)) + (1 : Int32))) (hc29 : ¬ (ct < (2 : Int32))) (hc41 : ct < (3 : Int32)) (z94 : Int32) (h_z94 : z94 = (if (ct - (1 : Int32)) = (0 : Int32) then a else (if (ct - (1 : Int32)) = (1 : Int32) then b else (if (ct - (1 : Int32)) = (2 : Int32) then cc else (if (ct - (1 : Int32)) = (3 : Int32) then d else e))))) (z143 : Int32) (h_z143 : z143 = (if (ct - (2 : Int32)) = (0 : Int32) then a else (if (ct - (2 : Int32)) = (1 : Int32) then b else (if (ct - (2 : Int32)) = (2 : Int32) then cc else (if (ct - (2 : Int32)) = (3 : Int32) then d else e))))) : (0 : Int32) = (ct - (2 : Int32)) := by
  have q := own_ct nn ct h_ct
  clear h_ct
  rcases q with q | q | q | q | q <;> subst q <;> simp_all [nar]
theorem own_law_13 (a : Int32) (b : Int32) (cc : Int32) (d : Int32) (e : Int32) (nn : Int32) (ct : Int32) (h_ct : ct = (((nn &&& (7 : Int32)) % (5 : Int32)) + (1 : Int32))) (hc29 : ¬ (ct < (2 : Int32))) (hc41 : ct < (3 : Int32)) (z94 : Int32) (h_z94 : z94 = (if (ct - (1 : Int32)) = (0 : Int32) then a else (if (ct - (1 : Int32)) = (1 : Int32) then b else (if (ct - (1 : Int32)) = (2 : Int32) then cc else (if (ct - (1 : Int32)) = (3 : Int32) then d else e))))) (z143 : Int32) (h_z143 : z143 = (if (ct - (2 : Int32)) = (0 : Int32) then a else (if (ct - (2 : Int32)) = (1 : Int32) then b else (if (ct - (2 : Int32)) = (2 : Int32) then cc else (if (ct - (2 : Int32)) = (3 : Int32) then d else e))))) : nar .boolean (1 : Int32) = 1 := by
  rfl
theorem own_law_14 (a : Int32) (b : Int32) (cc : Int32) (d : Int32) (e : Int32) (nn : Int32) (ct : Int32) (h_ct : ct = (((nn &&& (7 : Int32)) % (5 : Int32)) + (1 : Int32))) (hc29 : ¬ (ct < (2 : Int32))) (hc41 : ¬ (ct < (3 : Int32))) (hc53 : ct < (4 : Int32)) : ct < (5 : Int32) := by
  have q := own_ct nn ct h_ct
  clear h_ct
  rcases q with q | q | q | q | q <;> subst q <;> simp_all [nar]
theorem own_law_15 (a : Int32) (b : Int32) (cc : Int32) (d : Int32) (e : Int32) (nn : Int32) (ct : Int32) (h_ct : ct = (((nn &&& (7 : Int32)) % (5 : Int32)) + (1 : Int32))) (hc29 : ¬ (ct < (2 : Int32))) (hc41 : ¬ (ct < (3 : Int32))) (hc53 : ct < (4 : Int32)) (z94 : Int32) (h_z94 : z94 = (if (ct - (1 : Int32)) = (0 : Int32) then a else (if (ct - (1 : Int32)) = (1 : Int32) then b else (if (ct - (1 : Int32)) = (2 : Int32) then cc else (if (ct - (1 : Int32)) = (3 : Int32) then d else e))))) : cc = z94 := by
  have q := own_ct nn ct h_ct
  clear h_ct
  rcases q with q | q | q | q | q <;> subst q <;> simp_all [nar]
theorem own_law_16 (a : Int32) (b : Int32) (cc : Int32) (d : Int32) (e : Int32) (nn : Int32) (ct : Int32) (h_ct : ct = (((nn &&& (7 : Int32)) % (5 : Int32)) + (1 : Int32))) (hc29 : ¬ (ct < (2 : Int32))) (hc41 : ¬ (ct < (3 : Int32))) (hc53 : ct < (4 : Int32)) (z94 : Int32) (h_z94 : z94 = (if (ct - (1 : Int32)) = (0 : Int32) then a else (if (ct - (1 : Int32)) = (1 : Int32) then b else (if (ct - (1 : Int32)) = (2 : Int32) then cc else (if (ct - (1 : Int32)) = (3 : Int32) then d else e))))) : (2 : Int32) = (ct - (1 : Int32)) := by
  have q := own_ct nn ct h_ct
  clear h_ct
  rcases q with q | q | q | q | q <;> subst q <;> simp_all [nar]
theorem own_law_17 (a : Int32) (b : Int32) (cc : Int32) (d : Int32) (e : Int32) (nn : Int32) (ct : Int32) (h_ct : ct = (((nn &&& (7 : Int32)) % (5 : Int32)) + (1 : Int32))) (hc29 : ¬ (ct < (2 : Int32))) (hc41 : ¬ (ct < (3 : Int32))) (hc53 : ct < (4 : Int32)) (z94 : Int32) (h_z94 : z94 = (if (ct - (1 : Int32)) = (0 : Int32) then a else (if (ct - (1 : Int32)) = (1 : Int32) then b else (if (ct - (1 : Int32)) = (2 : Int32) then cc else (if (ct - (1 : Int32)) = (3 : Int32) then d else e))))) (z143 : Int32) (h_z143 : z143 = (if (ct - (2 : Int32)) = (0 : Int32) then a else (if (ct - (2 : Int32)) = (1 : Int32) then b else (if (ct - (2 : Int32)) = (2 : Int32) then cc else (if (ct - (2 : Int32)) = (3 : Int32) then d else e))))) : b = z143 := by
  have q := own_ct nn ct h_ct
  clear h_ct
  rcases q with q | q | q | q | q <;> subst q <;> simp_all [nar]
theorem own_law_18 (a : Int32) (b : Int32) (cc : Int32) (d : Int32) (e : Int32) (nn : Int32) (ct : Int32) (h_ct : ct = (((nn &&& (7 : Int32)) % (5 : Int32)) + (1 : Int32))) (hc29 : ¬ (ct < (2 : Int32))) (hc41 : ¬ (ct < (3 : Int32))) (hc53 : ct < (4 : Int32)) (z94 : Int32) (h_z94 : z94 = (if (ct - (1 : Int32)) = (0 : Int32) then a else (if (ct - (1 : Int32)) = (1 : Int32) then b else (if (ct - (1 : Int32)) = (2 : Int32) then cc else (if (ct - (1 : Int32)) = (3 : Int32) then d else e))))) (z143 : Int32) (h_z143 : z143 = (if (ct - (2 : Int32)) = (0 : Int32) then a else (if (ct - (2 : Int32)) = (1 : Int32) then b else (if (ct - (2 : Int32)) = (2 : Int32) then cc else (if (ct - (2 : Int32)) = (3 : Int32) then d else e))))) : (1 : Int32) = (ct - (2 : Int32)) := by
  have q := own_ct nn ct h_ct
  clear h_ct
  rcases q with q | q | q | q | q <;> subst q <;> simp_all [nar]
theorem own_law_19 (a : Int32) (b : Int32) (cc : Int32) (d : Int32) (e : Int32) (nn : Int32) (ct : Int32) (h_ct : ct = (((nn &&& (7 : Int32)) % (5 : Int32)) + (1 : Int32))) (hc29 : ¬ (ct < (2 : Int32))) (hc41 : ¬ (ct < (3 : Int32))) (hc53 : ct < (4 : Int32)) (z94 : Int32) (h_z94 : z94 = (if (ct - (1 : Int32)) = (0 : Int32) then a else (if (ct - (1 : Int32)) = (1 : Int32) then b else (if (ct - (1 : Int32)) = (2 : Int32) then cc else (if (ct - (1 : Int32)) = (3 : Int32) then d else e))))) (z143 : Int32) (h_z143 : z143 = (if (ct - (2 : Int32)) = (0 : Int32) then a else (if (ct - (2 : Int32)) = (1 : Int32) then b else (if (ct - (2 : Int32)) = (2 : Int32) then cc else (if (ct - (2 : Int32)) = (3 : Int32) then d else e))))) : nar .boolean (1 : Int32) = 1 := by
  rfl
theorem own_law_20 (a : Int32) (b : Int32) (cc : Int32) (d : Int32) (e : Int32) (nn : Int32) (ct : Int32) (h_ct : ct = (((nn &&& (7 : Int32)) % (5 : Int32)) + (1 : Int32))) (hc29 : ¬ (ct < (2 : Int32))) (hc41 : ¬ (ct < (3 : Int32))) (hc53 : ¬ (ct < (4 : Int32))) (hc65 : ct < (5 : Int32)) (z94 : Int32) (h_z94 : z94 = (if (ct - (1 : Int32)) = (0 : Int32) then a else (if (ct - (1 : Int32)) = (1 : Int32) then b else (if (ct - (1 : Int32)) = (2 : Int32) then cc else (if (ct - (1 : Int32)) = (3 : Int32) then d else e))))) : d = z94 := by
  have q := own_ct nn ct h_ct
  clear h_ct
  rcases q with q | q | q | q | q <;> subst q <;> simp_all [nar]
theorem own_law_21 (a : Int32) (b : Int32) (cc : Int32) (d : Int32) (e : Int32) (nn : Int32) (ct : Int32) (h_ct : ct = (((nn &&& (7 : Int32)) % (5 : Int32)) + (1 : Int32))) (hc29 : ¬ (ct < (2 : Int32))) (hc41 : ¬ (ct < (3 : Int32))) (hc53 : ¬ (ct < (4 : Int32))) (hc65 : ct < (5 : Int32)) (z94 : Int32) (h_z94 : z94 = (if (ct - (1 : Int32)) = (0 : Int32) then a else (if (ct - (1 : Int32)) = (1 : Int32) then b else (if (ct - (1 : Int32)) = (2 : Int32) then cc else (if (ct - (1 : Int32)) = (3 : Int32) then d else e))))) : (3 : Int32) = (ct - (1 : Int32)) := by
  have q := own_ct nn ct h_ct
  clear h_ct
  rcases q with q | q | q | q | q <;> subst q <;> simp_all [nar]
theorem own_law_22 (a : Int32) (b : Int32) (cc : Int32) (d : Int32) (e : Int32) (nn : Int32) (ct : Int32) (h_ct : ct = (((nn &&& (7 : Int32)) % (5 : Int32)) + (1 : Int32))) (hc29 : ¬ (ct < (2 : Int32))) (hc41 : ¬ (ct < (3 : Int32))) (hc53 : ¬ (ct < (4 : Int32))) (hc65 : ct < (5 : Int32)) (z94 : Int32) (h_z94 : z94 = (if (ct - (1 : Int32)) = (0 : Int32) then a else (if (ct - (1 : Int32)) = (1 : Int32) then b else (if (ct - (1 : Int32)) = (2 : Int32) then cc else (if (ct - (1 : Int32)) = (3 : Int32) then d else e))))) (z143 : Int32) (h_z143 : z143 = (if (ct - (2 : Int32)) = (0 : Int32) then a else (if (ct - (2 : Int32)) = (1 : Int32) then b else (if (ct - (2 : Int32)) = (2 : Int32) then cc else (if (ct - (2 : Int32)) = (3 : Int32) then d else e))))) : cc = z143 := by
  have q := own_ct nn ct h_ct
  clear h_ct
  rcases q with q | q | q | q | q <;> subst q <;> simp_all [nar]
theorem own_law_23 (a : Int32) (b : Int32) (cc : Int32) (d : Int32) (e : Int32) (nn : Int32) (ct : Int32) (h_ct : ct = (((nn &&& (7 : Int32)) % (5 : Int32)) + (1 : Int32))) (hc29 : ¬ (ct < (2 : Int32))) (hc41 : ¬ (ct < (3 : Int32))) (hc53 : ¬ (ct < (4 : Int32))) (hc65 : ct < (5 : Int32)) (z94 : Int32) (h_z94 : z94 = (if (ct - (1 : Int32)) = (0 : Int32) then a else (if (ct - (1 : Int32)) = (1 : Int32) then b else (if (ct - (1 : Int32)) = (2 : Int32) then cc else (if (ct - (1 : Int32)) = (3 : Int32) then d else e))))) (z143 : Int32) (h_z143 : z143 = (if (ct - (2 : Int32)) = (0 : Int32) then a else (if (ct - (2 : Int32)) = (1 : Int32) then b else (if (ct - (2 : Int32)) = (2 : Int32) then cc else (if (ct - (2 : Int32)) = (3 : Int32) then d else e))))) : (2 : Int32) = (ct - (2 : Int32)) := by
  have q := own_ct nn ct h_ct
  clear h_ct
  rcases q with q | q | q | q | q <;> subst q <;> simp_all [nar]
theorem own_law_24 (a : Int32) (b : Int32) (cc : Int32) (d : Int32) (e : Int32) (nn : Int32) (ct : Int32) (h_ct : ct = (((nn &&& (7 : Int32)) % (5 : Int32)) + (1 : Int32))) (hc29 : ¬ (ct < (2 : Int32))) (hc41 : ¬ (ct < (3 : Int32))) (hc53 : ¬ (ct < (4 : Int32))) (hc65 : ct < (5 : Int32)) (z94 : Int32) (h_z94 : z94 = (if (ct - (1 : Int32)) = (0 : Int32) then a else (if (ct - (1 : Int32)) = (1 : Int32) then b else (if (ct - (1 : Int32)) = (2 : Int32) then cc else (if (ct - (1 : Int32)) = (3 : Int32) then d else e))))) (z143 : Int32) (h_z143 : z143 = (if (ct - (2 : Int32)) = (0 : Int32) then a else (if (ct - (2 : Int32)) = (1 : Int32) then b else (if (ct - (2 : Int32)) = (2 : Int32) then cc else (if (ct - (2 : Int32)) = (3 : Int32) then d else e))))) : nar .boolean (1 : Int32) = 1 := by
  rfl
theorem own_law_25 (a : Int32) (b : Int32) (cc : Int32) (d : Int32) (e : Int32) (nn : Int32) (ct : Int32) (h_ct : ct = (((nn &&& (7 : Int32)) % (5 : Int32)) + (1 : Int32))) (hc29 : ¬ (ct < (2 : Int32))) (hc41 : ¬ (ct < (3 : Int32))) (hc53 : ¬ (ct < (4 : Int32))) (hc65 : ¬ (ct < (5 : Int32))) (z94 : Int32) (h_z94 : z94 = (if (ct - (1 : Int32)) = (0 : Int32) then a else (if (ct - (1 : Int32)) = (1 : Int32) then b else (if (ct - (1 : Int32)) = (2 : Int32) then cc else (if (ct - (1 : Int32)) = (3 : Int32) then d else e))))) : e = z94 := by
  have q := own_ct nn ct h_ct
  clear h_ct
  rcases q with q | q | q | q | q <;> subst q <;> simp_all [nar]
theorem own_law_26 (a : Int32) (b : Int32) (cc : Int32) (d : Int32) (e : Int32) (nn : Int32) (ct : Int32) (h_ct : ct = (((nn &&& (7 : Int32)) % (5 : Int32)) + (1 : Int32))) (hc29 : ¬ (ct < (2 : Int32))) (hc41 : ¬ (ct < (3 : Int32))) (hc53 : ¬ (ct < (4 : Int32))) (hc65 : ¬ (ct < (5 : Int32))) (z94 : Int32) (h_z94 : z94 = (if (ct - (1 : Int32)) = (0 : Int32) then a else (if (ct - (1 : Int32)) = (1 : Int32) then b else (if (ct - (1 : Int32)) = (2 : Int32) then cc else (if (ct - (1 : Int32)) = (3 : Int32) then d else e))))) : (4 : Int32) = (ct - (1 : Int32)) := by
  have q := own_ct nn ct h_ct
  clear h_ct
  rcases q with q | q | q | q | q <;> subst q <;> simp_all [nar]
theorem own_law_27 (a : Int32) (b : Int32) (cc : Int32) (d : Int32) (e : Int32) (nn : Int32) (ct : Int32) (h_ct : ct = (((nn &&& (7 : Int32)) % (5 : Int32)) + (1 : Int32))) (hc29 : ¬ (ct < (2 : Int32))) (hc41 : ¬ (ct < (3 : Int32))) (hc53 : ¬ (ct < (4 : Int32))) (hc65 : ¬ (ct < (5 : Int32))) (z94 : Int32) (h_z94 : z94 = (if (ct - (1 : Int32)) = (0 : Int32) then a else (if (ct - (1 : Int32)) = (1 : Int32) then b else (if (ct - (1 : Int32)) = (2 : Int32) then cc else (if (ct - (1 : Int32)) = (3 : Int32) then d else e))))) (z143 : Int32) (h_z143 : z143 = (if (ct - (2 : Int32)) = (0 : Int32) then a else (if (ct - (2 : Int32)) = (1 : Int32) then b else (if (ct - (2 : Int32)) = (2 : Int32) then cc else (if (ct - (2 : Int32)) = (3 : Int32) then d else e))))) : d = z143 := by
  have q := own_ct nn ct h_ct
  clear h_ct
  rcases q with q | q | q | q | q <;> subst q <;> simp_all [nar]
theorem own_law_28 (a : Int32) (b : Int32) (cc : Int32) (d : Int32) (e : Int32) (nn : Int32) (ct : Int32) (h_ct : ct = (((nn &&& (7 : Int32)) % (5 : Int32)) + (1 : Int32))) (hc29 : ¬ (ct < (2 : Int32))) (hc41 : ¬ (ct < (3 : Int32))) (hc53 : ¬ (ct < (4 : Int32))) (hc65 : ¬ (ct < (5 : Int32))) (z94 : Int32) (h_z94 : z94 = (if (ct - (1 : Int32)) = (0 : Int32) then a else (if (ct - (1 : Int32)) = (1 : Int32) then b else (if (ct - (1 : Int32)) = (2 : Int32) then cc else (if (ct - (1 : Int32)) = (3 : Int32) then d else e))))) (z143 : Int32) (h_z143 : z143 = (if (ct - (2 : Int32)) = (0 : Int32) then a else (if (ct - (2 : Int32)) = (1 : Int32) then b else (if (ct - (2 : Int32)) = (2 : Int32) then cc else (if (ct - (2 : Int32)) = (3 : Int32) then d else e))))) : (3 : Int32) = (ct - (2 : Int32)) := by
  have q := own_ct nn ct h_ct
  clear h_ct
  rcases q with q | q | q | q | q <;> subst q <;> simp_all [nar]
theorem own_law_29 (a : Int32) (b : Int32) (cc : Int32) (d : Int32) (e : Int32) (nn : Int32) (ct : Int32) (h_ct : ct = (((nn &&& (7 : Int32)) % (5 : Int32)) + (1 : Int32))) (hc29 : ¬ (ct < (2 : Int32))) (hc41 : ¬ (ct < (3 : Int32))) (hc53 : ¬ (ct < (4 : Int32))) (hc65 : ¬ (ct < (5 : Int32))) (z94 : Int32) (h_z94 : z94 = (if (ct - (1 : Int32)) = (0 : Int32) then a else (if (ct - (1 : Int32)) = (1 : Int32) then b else (if (ct - (1 : Int32)) = (2 : Int32) then cc else (if (ct - (1 : Int32)) = (3 : Int32) then d else e))))) (z143 : Int32) (h_z143 : z143 = (if (ct - (2 : Int32)) = (0 : Int32) then a else (if (ct - (2 : Int32)) = (1 : Int32) then b else (if (ct - (2 : Int32)) = (2 : Int32) then cc else (if (ct - (2 : Int32)) = (3 : Int32) then d else e))))) : nar .boolean (1 : Int32) = 1 := by
  rfl
theorem pn_law : plainFor x = true := by first | (refine plainFor_of_name ?_; show plainName "com/example/fenpei/fenpei/IntListRemoveLastPinLaw" = true; simp [plainName, overriddenIn]; done) | decide +kernel
set_option maxRecDepth 65536 in
set_option maxHeartbeats 40000000 in
theorem c_law (l : Launch) (Z : State) (a0 : Array Value) (hw : ∀ d ∈ tables_1, d.before a0 Z = true) (a : Int32) (b : Int32) (cc : Int32) (d : Int32) (e : Int32) (nn : Int32) (h0 : Heap) (n0 : Nat) (Z0 : n0 ≤ h0.size) :
    Con l Z x code maxLocals ret room_1 #[.int a, .int b, .int cc, .int d, .int e, .int nn] h0 n0 QL tables_1 := by
  refine con_of_wp pn_law (L0 := #[.val (.int a), .val (.int b), .val (.int cc), .val (.int d), .val (.int e), .val (.int nn), .unset, .unset, .unset, .unset]) (fun m => by first | (simp [entryFrame, mkF, argsToLocals, Value.category, maxLocals]; done) | rfl) (fun X hl ok => ?_)
  subst hl
  have hK : Konst Z a0 "com/example/fenpei/fenpei/IntListRemoveLastPinLaw" k_law := trivial
  refine wp_run ok hK (B := [(0, .iload 5, false), (2, .bipush 7, false), (4, .iand, false), (5, .iconst 5, false), (6, .irem, false), (7, .iconst 1, false), (8, .iadd, false), (9, .istore 6, false)]) (by decide +kernel) (pc' := 11) (L' := #[.val (.int a), .val (.int b), .val (.int cc), .val (.int d), .val (.int e), .val (.int nn), .val (.int (((nn &&& (7 : Int32)) % (5 : Int32)) + (1 : Int32))), .unset, .unset, .unset]) (S' := []) rfl ⟨(by decide), trivial⟩ ?_
  obtain ⟨ct, h_ct⟩ : ∃ z : Int32, z = (((nn &&& (7 : Int32)) % (5 : Int32)) + (1 : Int32)) := ⟨_, rfl⟩
  rw [← h_ct]
  refine wp_new ok (wd hw 0 rfl) (wd hw 1 rfl) (wd hw 2 rfl) (by decide +kernel) (by decide) (by decide) ?_
  intro h1 a2 ea3 X4 E5 D6
  have Z7 : n0 ≤ h1.size := Nat.le_trans Z0 X4.1
  have g8 : n0 ≤ a2 := by rw [ea3]; exact Z0
  have F9 : Fld Z h1 a2 "com/example/fenpei/fenpei/IntList" "values" "[I" (.null) := D6 (Or.inl (wd hw 11 rfl)) (ty := (.array .int)) (by decide)
  have F10 : Fld Z h1 a2 "com/example/fenpei/fenpei/IntList" "size" "I" (.int (0 : Int32)) := D6 (Or.inl (wd hw 18 rfl)) (ty := .int) (by decide)
  refine wp_run ok hK (B := [(14, .dup, false)]) (by decide +kernel) (pc' := 15) (L' := #[.val (.int a), .val (.int b), .val (.int cc), .val (.int d), .val (.int e), .val (.int nn), .val (.int ct), .unset, .unset, .unset]) (S' := [(.ref a2), (.ref a2)]) rfl trivial ?_
  refine wp_special ok rfl (wd hw 3 rfl) (wd hw 4 rfl) (wd hw 2 rfl) (wd hw 5 rfl) (by decide) (argsL := []) (rest := [(.ref a2)]) (c_ini _ Z a0 hw a2 h1 n0 Z7 E5 F9 F10 g8) (ps := []) (by decide +kernel) (by rfl) (by rfl) (by rfl) (by decide +kernel) (by decide) (Nat.le_of_ble_eq_true rfl) (by decide) (by decide) ?_
  intro r17 h18 q19
  obtain ⟨a11, rfl, K12, g13, F14, F15, A16⟩ := q19
  have E20 := E5.keep K12
  have g21 : n0 ≤ a11 := Nat.le_trans Z7 g13
  have Z22 : n0 ≤ h18.size := Nat.le_trans Z7 K12.1
  have F23 : Fld Z h18 a2 "com/example/fenpei/fenpei/IntList" "size" "I" (.int (0 : Int32)) := Fld_c F15 (by decide)
  have N24 : a2 ≠ a11 := ne_ar E20 (wd hw 1 rfl) A16
  show WP X n0 QL h18 2 6 18 #[.val (.int a), .val (.int b), .val (.int cc), .val (.int d), .val (.int e), .val (.int nn), .val (.int ct), .unset, .unset, .unset] [(.ref a2)]
  refine wp_run ok hK (B := [(18, .astore 7, false), (20, .aload 7, false), (22, .iload_n 0, false)]) (by decide +kernel) (pc' := 23) (L' := #[.val (.int a), .val (.int b), .val (.int cc), .val (.int d), .val (.int e), .val (.int nn), .val (.int ct), .val ((.ref a2)), .unset, .unset]) (S' := [.int a, (.ref a2)]) rfl trivial ?_
  refine wp_virtual ok (wd hw 12 rfl) (wd hw 13 rfl) (wd hw 15 rfl) (wd hw 14 rfl) (wd hw 2 rfl) (wd hw 16 rfl) (by decide) (argsL := [.int a]) (rest := []) E20 (c_ad1 _ Z a0 hw a2 a a11 (0 : Int32) (0 : Int32) (0 : Int32) (0 : Int32) (0 : Int32) 0 h18 n0 Z22 E20 F14 F23 g8 A16 g21 rfl (by decide)) (ps := [.int]) (by decide +kernel) (by rfl) (by rfl) (by rfl) (by decide +kernel) (by decide) (Nat.le_of_ble_eq_true rfl) (by decide) (by decide) ?_
  intro r29 h30 q31
  obtain ⟨rfl, K25, F26, F27, A28⟩ := q31
  have A32 : Ar Z h30 a11 .int 4 (lst [.int a, .int (0 : Int32), .int (0 : Int32), .int (0 : Int32)]) := A28
  have E33 := E20.keep K25
  have Z34 : n0 ≤ h30.size := Nat.le_trans Z22 K25.1
  have F35 : Fld Z h30 a2 "com/example/fenpei/fenpei/IntList" "size" "I" (.int (1 : Int32)) := Fld_c F27 (by decide)
  have N36 : a2 ≠ a11 := ne_ar E33 (wd hw 1 rfl) A32
  show WP X n0 QL h30 2 6 26 #[.val (.int a), .val (.int b), .val (.int cc), .val (.int d), .val (.int e), .val (.int nn), .val (.int ct), .val ((.ref a2)), .unset, .unset] []
  refine wp_run ok hK (B := [(26, .iload 6, false), (28, .iconst 2, false)]) (by decide +kernel) (pc' := 29) (L' := #[.val (.int a), .val (.int b), .val (.int cc), .val (.int d), .val (.int e), .val (.int nn), .val (.int ct), .val ((.ref a2)), .unset, .unset]) (S' := [.int (2 : Int32), .int ct]) rfl trivial ?_
  by_cases hc29 : ct < (2 : Int32)
  · refine wp_run ok hK (B := [(29, .if_icmp .lt 9, true)]) (by decide +kernel) (pc' := 38) (L' := #[.val (.int a), .val (.int b), .val (.int cc), .val (.int d), .val (.int e), .val (.int nn), .val (.int ct), .val ((.ref a2)), .unset, .unset]) (S' := []) rfl ⟨(XT.ii_lt_t hc29), trivial⟩ ?_
    refine wp_run ok hK (B := [(38, .iload 6, false), (40, .iconst 3, false), (41, .if_icmp .lt 9, true), (50, .iload 6, false), (52, .iconst 4, false), (53, .if_icmp .lt 9, true), (62, .iload 6, false), (64, .iconst 5, false), (65, .if_icmp .lt 10, true), (75, .aload 7, false)]) (by decide +kernel) (pc' := 77) (L' := #[.val (.int a), .val (.int b), .val (.int cc), .val (.int d), .val (.int e), .val (.int nn), .val (.int ct), .val ((.ref a2)), .unset, .unset]) (S' := [(.ref a2)]) rfl ⟨(XT.ii_lt_t (own_law_1 a b cc d e nn ct h_ct hc29)), (XT.ii_lt_t (own_law_2 a b cc d e nn ct h_ct hc29)), (XT.ii_lt_t (own_law_3 a b cc d e nn ct h_ct hc29)), trivial⟩ ?_
    refine wp_virtual ok (wd hw 19 rfl) (wd hw 20 rfl) (wd hw 22 rfl) (wd hw 21 rfl) (wd hw 2 rfl) (wd hw 23 rfl) (by decide) (argsL := []) (rest := []) E33 (c_rem _ Z a0 hw a2 a11 (1 : Int32) 4 0 (lst [.int a, .int (0 : Int32), .int (0 : Int32), .int (0 : Int32)]) a h30 n0 Z34 E33 F26 F35 g8 A32 rfl (by decide) rfl) (ps := []) (by decide +kernel) (by rfl) (by rfl) (by rfl) (by decide +kernel) (by decide) (Nat.le_of_ble_eq_true rfl) (by decide) (by decide) ?_
    intro r40 h41 q42
    obtain ⟨rfl, K37, F38, F39⟩ := q42
    have A43 := A32.keep K37 (by simp only [List.mem_cons, List.not_mem_nil, or_false, not_or]; exact (Ne.symm N36))
    have E44 := E33.keep K37
    have Z45 : n0 ≤ h41.size := Nat.le_trans Z34 K37.1
    have F46 : Fld Z h41 a2 "com/example/fenpei/fenpei/IntList" "size" "I" (.int (0 : Int32)) := Fld_c F39 (by decide)
    have N47 : a2 ≠ a11 := ne_ar E44 (wd hw 1 rfl) A43
    show WP X n0 QL h41 2 6 80 #[.val (.int a), .val (.int b), .val (.int cc), .val (.int d), .val (.int e), .val (.int nn), .val (.int ct), .val ((.ref a2)), .unset, .unset] [.int a]
    refine wp_run ok hK (B := [(80, .istore 8, false), (82, .iload 8, false), (84, .iload 6, false), (86, .iconst 1, false), (87, .isub, false), (88, .iload_n 0, false), (89, .iload_n 1, false), (90, .iload_n 2, false), (91, .iload_n 3, false), (92, .iload 4, false)]) (by decide +kernel) (pc' := 94) (L' := #[.val (.int a), .val (.int b), .val (.int cc), .val (.int d), .val (.int e), .val (.int nn), .val (.int ct), .val ((.ref a2)), .val (.int a), .unset]) (S' := [.int e, .int d, .int cc, .int b, .int a, .int (ct - (1 : Int32)), .int a]) rfl trivial ?_
    refine wp_static ok (wd hw 24 rfl) (wd hw 25 rfl) (wd hw 26 rfl) (wd hw 27 rfl) (by decide) (argsL := [.int (ct - (1 : Int32)), .int a, .int b, .int cc, .int d, .int e]) (rest := [.int a]) (c_pick _ Z a0 hw (ct - (1 : Int32)) a b cc d e h41 n0 Z45 ) (ps := [.int, .int, .int, .int, .int, .int]) (by decide +kernel) (by rfl) (by rfl) (by rfl) (by decide +kernel) (by decide) (Nat.le_of_ble_eq_true rfl) (by decide) (by decide) ?_
    intro r48 h49 q50
    obtain ⟨e51, rfl⟩ := q50
    obtain ⟨z94, h_z94⟩ : ∃ z : Int32, z = (if (ct - (1 : Int32)) = (0 : Int32) then a else (if (ct - (1 : Int32)) = (1 : Int32) then b else (if (ct - (1 : Int32)) = (2 : Int32) then cc else (if (ct - (1 : Int32)) = (3 : Int32) then d else e)))) := ⟨_, rfl⟩
    have e51' := e51.trans (show _ = some (Value.int z94) by rw [h_z94])
    subst e51'
    show WP X n0 QL h41 2 6 97 #[.val (.int a), .val (.int b), .val (.int cc), .val (.int d), .val (.int e), .val (.int nn), .val (.int ct), .val ((.ref a2)), .val (.int a), .unset] [.int z94, .int a]
    refine wp_run ok hK (B := [(97, .if_icmp .eq 5, true), (102, .aload 7, false)]) (by decide +kernel) (pc' := 104) (L' := #[.val (.int a), .val (.int b), .val (.int cc), .val (.int d), .val (.int e), .val (.int nn), .val (.int ct), .val ((.ref a2)), .val (.int a), .unset]) (S' := [(.ref a2)]) rfl ⟨(XT.ii_eq_t (own_law_4 a b cc d e nn ct h_ct hc29 z94 h_z94)), trivial⟩ ?_
    refine wp_virtual ok (wd hw 28 rfl) (wd hw 29 rfl) (wd hw 31 rfl) (wd hw 30 rfl) (wd hw 2 rfl) (wd hw 32 rfl) (by decide) (argsL := []) (rest := []) E44 (c_siz _ Z a0 hw a2 (0 : Int32) h41 n0 Z45 E44 F46 g8) (ps := []) (by decide +kernel) (by rfl) (by rfl) (by rfl) (by decide +kernel) (by decide) (Nat.le_of_ble_eq_true rfl) (by decide) (by decide) ?_
    intro r52 h53 q54
    obtain ⟨rfl, rfl⟩ := q54
    show WP X n0 QL h41 2 6 107 #[.val (.int a), .val (.int b), .val (.int cc), .val (.int d), .val (.int e), .val (.int nn), .val (.int ct), .val ((.ref a2)), .val (.int a), .unset] [.int (0 : Int32)]
    refine wp_run ok hK (B := [(107, .iload 6, false), (109, .iconst 1, false), (110, .isub, false), (111, .if_icmp .eq 5, true), (116, .iload 6, false), (118, .iconst 2, false), (119, .if_icmp .ge 5, false), (122, .iconst 1, false)]) (by decide +kernel) (pc' := 123) (L' := #[.val (.int a), .val (.int b), .val (.int cc), .val (.int d), .val (.int e), .val (.int nn), .val (.int ct), .val ((.ref a2)), .val (.int a), .unset]) (S' := [.int (1 : Int32)]) rfl ⟨(XT.ii_eq_t (own_law_5 a b cc d e nn ct h_ct hc29 z94 h_z94)), (XT.ii_ge_f hc29), trivial⟩ ?_
    refine wp_retZ ok (t := .boolean) (by simp) (by decide +kernel) (by decide) (by decide) ?_
    exact congrArg (fun z => some (Value.int z)) (own_law_6 a b cc d e nn ct h_ct hc29 z94 h_z94)
  · refine wp_run ok hK (B := [(29, .if_icmp .lt 9, false)]) (by decide +kernel) (pc' := 32) (L' := #[.val (.int a), .val (.int b), .val (.int cc), .val (.int d), .val (.int e), .val (.int nn), .val (.int ct), .val ((.ref a2)), .unset, .unset]) (S' := []) rfl ⟨(XT.ii_lt_f hc29), trivial⟩ ?_
    refine wp_run ok hK (B := [(32, .aload 7, false), (34, .iload_n 1, false)]) (by decide +kernel) (pc' := 35) (L' := #[.val (.int a), .val (.int b), .val (.int cc), .val (.int d), .val (.int e), .val (.int nn), .val (.int ct), .val ((.ref a2)), .unset, .unset]) (S' := [.int b, (.ref a2)]) rfl trivial ?_
    refine wp_virtual ok (wd hw 12 rfl) (wd hw 13 rfl) (wd hw 15 rfl) (wd hw 14 rfl) (wd hw 2 rfl) (wd hw 16 rfl) (by decide) (argsL := [.int b]) (rest := []) E33 (c_ad1 _ Z a0 hw a2 b a11 (1 : Int32) a (0 : Int32) (0 : Int32) (0 : Int32) 1 h30 n0 Z34 E33 F26 F35 g8 A32 g21 rfl (by decide)) (ps := [.int]) (by decide +kernel) (by rfl) (by rfl) (by rfl) (by decide +kernel) (by decide) (Nat.le_of_ble_eq_true rfl) (by decide) (by decide) ?_
    intro r59 h60 q61
    obtain ⟨rfl, K55, F56, F57, A58⟩ := q61
    have A62 : Ar Z h60 a11 .int 4 (lst [.int a, .int b, .int (0 : Int32), .int (0 : Int32)]) := A58
    have E63 := E33.keep K55
    have Z64 : n0 ≤ h60.size := Nat.le_trans Z34 K55.1
    have F65 : Fld Z h60 a2 "com/example/fenpei/fenpei/IntList" "size" "I" (.int (2 : Int32)) := Fld_c F57 (by decide)
    have N66 : a2 ≠ a11 := ne_ar E63 (wd hw 1 rfl) A62
    show WP X n0 QL h60 2 6 38 #[.val (.int a), .val (.int b), .val (.int cc), .val (.int d), .val (.int e), .val (.int nn), .val (.int ct), .val ((.ref a2)), .unset, .unset] []
    refine wp_run ok hK (B := [(38, .iload 6, false), (40, .iconst 3, false)]) (by decide +kernel) (pc' := 41) (L' := #[.val (.int a), .val (.int b), .val (.int cc), .val (.int d), .val (.int e), .val (.int nn), .val (.int ct), .val ((.ref a2)), .unset, .unset]) (S' := [.int (3 : Int32), .int ct]) rfl trivial ?_
    by_cases hc41 : ct < (3 : Int32)
    · refine wp_run ok hK (B := [(41, .if_icmp .lt 9, true)]) (by decide +kernel) (pc' := 50) (L' := #[.val (.int a), .val (.int b), .val (.int cc), .val (.int d), .val (.int e), .val (.int nn), .val (.int ct), .val ((.ref a2)), .unset, .unset]) (S' := []) rfl ⟨(XT.ii_lt_t hc41), trivial⟩ ?_
      refine wp_run ok hK (B := [(50, .iload 6, false), (52, .iconst 4, false), (53, .if_icmp .lt 9, true), (62, .iload 6, false), (64, .iconst 5, false), (65, .if_icmp .lt 10, true), (75, .aload 7, false)]) (by decide +kernel) (pc' := 77) (L' := #[.val (.int a), .val (.int b), .val (.int cc), .val (.int d), .val (.int e), .val (.int nn), .val (.int ct), .val ((.ref a2)), .unset, .unset]) (S' := [(.ref a2)]) rfl ⟨(XT.ii_lt_t (own_law_7 a b cc d e nn ct h_ct hc29 hc41)), (XT.ii_lt_t (own_law_8 a b cc d e nn ct h_ct hc29 hc41)), trivial⟩ ?_
      refine wp_virtual ok (wd hw 19 rfl) (wd hw 20 rfl) (wd hw 22 rfl) (wd hw 21 rfl) (wd hw 2 rfl) (wd hw 23 rfl) (by decide) (argsL := []) (rest := []) E63 (c_rem _ Z a0 hw a2 a11 (2 : Int32) 4 1 (lst [.int a, .int b, .int (0 : Int32), .int (0 : Int32)]) b h60 n0 Z64 E63 F56 F65 g8 A62 rfl (by decide) rfl) (ps := []) (by decide +kernel) (by rfl) (by rfl) (by rfl) (by decide +kernel) (by decide) (Nat.le_of_ble_eq_true rfl) (by decide) (by decide) ?_
      intro r70 h71 q72
      obtain ⟨rfl, K67, F68, F69⟩ := q72
      have A73 := A62.keep K67 (by simp only [List.mem_cons, List.not_mem_nil, or_false, not_or]; exact (Ne.symm N66))
      have E74 := E63.keep K67
      have Z75 : n0 ≤ h71.size := Nat.le_trans Z64 K67.1
      have F76 : Fld Z h71 a2 "com/example/fenpei/fenpei/IntList" "size" "I" (.int (1 : Int32)) := Fld_c F69 (by decide)
      have N77 : a2 ≠ a11 := ne_ar E74 (wd hw 1 rfl) A73
      show WP X n0 QL h71 2 6 80 #[.val (.int a), .val (.int b), .val (.int cc), .val (.int d), .val (.int e), .val (.int nn), .val (.int ct), .val ((.ref a2)), .unset, .unset] [.int b]
      refine wp_run ok hK (B := [(80, .istore 8, false), (82, .iload 8, false), (84, .iload 6, false), (86, .iconst 1, false), (87, .isub, false), (88, .iload_n 0, false), (89, .iload_n 1, false), (90, .iload_n 2, false), (91, .iload_n 3, false), (92, .iload 4, false)]) (by decide +kernel) (pc' := 94) (L' := #[.val (.int a), .val (.int b), .val (.int cc), .val (.int d), .val (.int e), .val (.int nn), .val (.int ct), .val ((.ref a2)), .val (.int b), .unset]) (S' := [.int e, .int d, .int cc, .int b, .int a, .int (ct - (1 : Int32)), .int b]) rfl trivial ?_
      refine wp_static ok (wd hw 24 rfl) (wd hw 25 rfl) (wd hw 26 rfl) (wd hw 27 rfl) (by decide) (argsL := [.int (ct - (1 : Int32)), .int a, .int b, .int cc, .int d, .int e]) (rest := [.int b]) (c_pick _ Z a0 hw (ct - (1 : Int32)) a b cc d e h71 n0 Z75 ) (ps := [.int, .int, .int, .int, .int, .int]) (by decide +kernel) (by rfl) (by rfl) (by rfl) (by decide +kernel) (by decide) (Nat.le_of_ble_eq_true rfl) (by decide) (by decide) ?_
      intro r78 h79 q80
      obtain ⟨e81, rfl⟩ := q80
      obtain ⟨z94, h_z94⟩ : ∃ z : Int32, z = (if (ct - (1 : Int32)) = (0 : Int32) then a else (if (ct - (1 : Int32)) = (1 : Int32) then b else (if (ct - (1 : Int32)) = (2 : Int32) then cc else (if (ct - (1 : Int32)) = (3 : Int32) then d else e)))) := ⟨_, rfl⟩
      have e81' := e81.trans (show _ = some (Value.int z94) by rw [h_z94])
      subst e81'
      show WP X n0 QL h71 2 6 97 #[.val (.int a), .val (.int b), .val (.int cc), .val (.int d), .val (.int e), .val (.int nn), .val (.int ct), .val ((.ref a2)), .val (.int b), .unset] [.int z94, .int b]
      refine wp_run ok hK (B := [(97, .if_icmp .eq 5, true), (102, .aload 7, false)]) (by decide +kernel) (pc' := 104) (L' := #[.val (.int a), .val (.int b), .val (.int cc), .val (.int d), .val (.int e), .val (.int nn), .val (.int ct), .val ((.ref a2)), .val (.int b), .unset]) (S' := [(.ref a2)]) rfl ⟨(XT.ii_eq_t (own_law_9 a b cc d e nn ct h_ct hc29 hc41 z94 h_z94)), trivial⟩ ?_
      refine wp_virtual ok (wd hw 28 rfl) (wd hw 29 rfl) (wd hw 31 rfl) (wd hw 30 rfl) (wd hw 2 rfl) (wd hw 32 rfl) (by decide) (argsL := []) (rest := []) E74 (c_siz _ Z a0 hw a2 (1 : Int32) h71 n0 Z75 E74 F76 g8) (ps := []) (by decide +kernel) (by rfl) (by rfl) (by rfl) (by decide +kernel) (by decide) (Nat.le_of_ble_eq_true rfl) (by decide) (by decide) ?_
      intro r82 h83 q84
      obtain ⟨rfl, rfl⟩ := q84
      show WP X n0 QL h71 2 6 107 #[.val (.int a), .val (.int b), .val (.int cc), .val (.int d), .val (.int e), .val (.int nn), .val (.int ct), .val ((.ref a2)), .val (.int b), .unset] [.int (1 : Int32)]
      refine wp_run ok hK (B := [(107, .iload 6, false), (109, .iconst 1, false), (110, .isub, false), (111, .if_icmp .eq 5, true), (116, .iload 6, false), (118, .iconst 2, false), (119, .if_icmp .ge 5, true), (124, .aload 7, false)]) (by decide +kernel) (pc' := 126) (L' := #[.val (.int a), .val (.int b), .val (.int cc), .val (.int d), .val (.int e), .val (.int nn), .val (.int ct), .val ((.ref a2)), .val (.int b), .unset]) (S' := [(.ref a2)]) rfl ⟨(XT.ii_eq_t (own_law_10 a b cc d e nn ct h_ct hc29 hc41 z94 h_z94)), (XT.ii_ge_t hc29), trivial⟩ ?_
      refine wp_virtual ok (wd hw 19 rfl) (wd hw 20 rfl) (wd hw 22 rfl) (wd hw 21 rfl) (wd hw 2 rfl) (wd hw 23 rfl) (by decide) (argsL := []) (rest := []) E74 (c_rem _ Z a0 hw a2 a11 (1 : Int32) 4 0 (lst [.int a, .int b, .int (0 : Int32), .int (0 : Int32)]) a h71 n0 Z75 E74 F68 F76 g8 A73 rfl (by decide) rfl) (ps := []) (by decide +kernel) (by rfl) (by rfl) (by rfl) (by decide +kernel) (by decide) (Nat.le_of_ble_eq_true rfl) (by decide) (by decide) ?_
      intro r88 h89 q90
      obtain ⟨rfl, K85, F86, F87⟩ := q90
      have A91 := A73.keep K85 (by simp only [List.mem_cons, List.not_mem_nil, or_false, not_or]; exact (Ne.symm N77))
      have E92 := E74.keep K85
      have Z93 : n0 ≤ h89.size := Nat.le_trans Z75 K85.1
      have F94 : Fld Z h89 a2 "com/example/fenpei/fenpei/IntList" "size" "I" (.int (0 : Int32)) := Fld_c F87 (by decide)
      have N95 : a2 ≠ a11 := ne_ar E92 (wd hw 1 rfl) A91
      show WP X n0 QL h89 2 6 129 #[.val (.int a), .val (.int b), .val (.int cc), .val (.int d), .val (.int e), .val (.int nn), .val (.int ct), .val ((.ref a2)), .val (.int b), .unset] [.int a]
      refine wp_run ok hK (B := [(129, .istore 9, false), (131, .iload 9, false), (133, .iload 6, false), (135, .iconst 2, false), (136, .isub, false), (137, .iload_n 0, false), (138, .iload_n 1, false), (139, .iload_n 2, false), (140, .iload_n 3, false), (141, .iload 4, false)]) (by decide +kernel) (pc' := 143) (L' := #[.val (.int a), .val (.int b), .val (.int cc), .val (.int d), .val (.int e), .val (.int nn), .val (.int ct), .val ((.ref a2)), .val (.int b), .val (.int a)]) (S' := [.int e, .int d, .int cc, .int b, .int a, .int (ct - (2 : Int32)), .int a]) rfl trivial ?_
      refine wp_static ok (wd hw 24 rfl) (wd hw 25 rfl) (wd hw 26 rfl) (wd hw 27 rfl) (by decide) (argsL := [.int (ct - (2 : Int32)), .int a, .int b, .int cc, .int d, .int e]) (rest := [.int a]) (c_pick _ Z a0 hw (ct - (2 : Int32)) a b cc d e h89 n0 Z93 ) (ps := [.int, .int, .int, .int, .int, .int]) (by decide +kernel) (by rfl) (by rfl) (by rfl) (by decide +kernel) (by decide) (Nat.le_of_ble_eq_true rfl) (by decide) (by decide) ?_
      intro r96 h97 q98
      obtain ⟨e99, rfl⟩ := q98
      obtain ⟨z143, h_z143⟩ : ∃ z : Int32, z = (if (ct - (2 : Int32)) = (0 : Int32) then a else (if (ct - (2 : Int32)) = (1 : Int32) then b else (if (ct - (2 : Int32)) = (2 : Int32) then cc else (if (ct - (2 : Int32)) = (3 : Int32) then d else e)))) := ⟨_, rfl⟩
      have e99' := e99.trans (show _ = some (Value.int z143) by rw [h_z143])
      subst e99'
      show WP X n0 QL h89 2 6 146 #[.val (.int a), .val (.int b), .val (.int cc), .val (.int d), .val (.int e), .val (.int nn), .val (.int ct), .val ((.ref a2)), .val (.int b), .val (.int a)] [.int z143, .int a]
      refine wp_run ok hK (B := [(146, .if_icmp .eq 5, true), (151, .aload 7, false)]) (by decide +kernel) (pc' := 153) (L' := #[.val (.int a), .val (.int b), .val (.int cc), .val (.int d), .val (.int e), .val (.int nn), .val (.int ct), .val ((.ref a2)), .val (.int b), .val (.int a)]) (S' := [(.ref a2)]) rfl ⟨(XT.ii_eq_t (own_law_11 a b cc d e nn ct h_ct hc29 hc41 z94 h_z94 z143 h_z143)), trivial⟩ ?_
      refine wp_virtual ok (wd hw 28 rfl) (wd hw 29 rfl) (wd hw 31 rfl) (wd hw 30 rfl) (wd hw 2 rfl) (wd hw 32 rfl) (by decide) (argsL := []) (rest := []) E92 (c_siz _ Z a0 hw a2 (0 : Int32) h89 n0 Z93 E92 F94 g8) (ps := []) (by decide +kernel) (by rfl) (by rfl) (by rfl) (by decide +kernel) (by decide) (Nat.le_of_ble_eq_true rfl) (by decide) (by decide) ?_
      intro r100 h101 q102
      obtain ⟨rfl, rfl⟩ := q102
      show WP X n0 QL h89 2 6 156 #[.val (.int a), .val (.int b), .val (.int cc), .val (.int d), .val (.int e), .val (.int nn), .val (.int ct), .val ((.ref a2)), .val (.int b), .val (.int a)] [.int (0 : Int32)]
      refine wp_run ok hK (B := [(156, .iload 6, false), (158, .iconst 2, false), (159, .isub, false), (160, .if_icmp .ne 7, false), (163, .iconst 1, false), (164, .goto 4, false)]) (by decide +kernel) (pc' := 168) (L' := #[.val (.int a), .val (.int b), .val (.int cc), .val (.int d), .val (.int e), .val (.int nn), .val (.int ct), .val ((.ref a2)), .val (.int b), .val (.int a)]) (S' := [.int (1 : Int32)]) rfl ⟨(XT.ii_ne_f (own_law_12 a b cc d e nn ct h_ct hc29 hc41 z94 h_z94 z143 h_z143)), trivial⟩ ?_
      refine wp_retZ ok (t := .boolean) (by simp) (by decide +kernel) (by decide) (by decide) ?_
      exact congrArg (fun z => some (Value.int z)) (own_law_13 a b cc d e nn ct h_ct hc29 hc41 z94 h_z94 z143 h_z143)
    · refine wp_run ok hK (B := [(41, .if_icmp .lt 9, false)]) (by decide +kernel) (pc' := 44) (L' := #[.val (.int a), .val (.int b), .val (.int cc), .val (.int d), .val (.int e), .val (.int nn), .val (.int ct), .val ((.ref a2)), .unset, .unset]) (S' := []) rfl ⟨(XT.ii_lt_f hc41), trivial⟩ ?_
      refine wp_run ok hK (B := [(44, .aload 7, false), (46, .iload_n 2, false)]) (by decide +kernel) (pc' := 47) (L' := #[.val (.int a), .val (.int b), .val (.int cc), .val (.int d), .val (.int e), .val (.int nn), .val (.int ct), .val ((.ref a2)), .unset, .unset]) (S' := [.int cc, (.ref a2)]) rfl trivial ?_
      refine wp_virtual ok (wd hw 12 rfl) (wd hw 13 rfl) (wd hw 15 rfl) (wd hw 14 rfl) (wd hw 2 rfl) (wd hw 16 rfl) (by decide) (argsL := [.int cc]) (rest := []) E63 (c_ad1 _ Z a0 hw a2 cc a11 (2 : Int32) a b (0 : Int32) (0 : Int32) 2 h60 n0 Z64 E63 F56 F65 g8 A62 g21 rfl (by decide)) (ps := [.int]) (by decide +kernel) (by rfl) (by rfl) (by rfl) (by decide +kernel) (by decide) (Nat.le_of_ble_eq_true rfl) (by decide) (by decide) ?_
      intro r107 h108 q109
      obtain ⟨rfl, K103, F104, F105, A106⟩ := q109
      have A110 : Ar Z h108 a11 .int 4 (lst [.int a, .int b, .int cc, .int (0 : Int32)]) := A106
      have E111 := E63.keep K103
      have Z112 : n0 ≤ h108.size := Nat.le_trans Z64 K103.1
      have F113 : Fld Z h108 a2 "com/example/fenpei/fenpei/IntList" "size" "I" (.int (3 : Int32)) := Fld_c F105 (by decide)
      have N114 : a2 ≠ a11 := ne_ar E111 (wd hw 1 rfl) A110
      show WP X n0 QL h108 2 6 50 #[.val (.int a), .val (.int b), .val (.int cc), .val (.int d), .val (.int e), .val (.int nn), .val (.int ct), .val ((.ref a2)), .unset, .unset] []
      refine wp_run ok hK (B := [(50, .iload 6, false), (52, .iconst 4, false)]) (by decide +kernel) (pc' := 53) (L' := #[.val (.int a), .val (.int b), .val (.int cc), .val (.int d), .val (.int e), .val (.int nn), .val (.int ct), .val ((.ref a2)), .unset, .unset]) (S' := [.int (4 : Int32), .int ct]) rfl trivial ?_
      by_cases hc53 : ct < (4 : Int32)
      · refine wp_run ok hK (B := [(53, .if_icmp .lt 9, true)]) (by decide +kernel) (pc' := 62) (L' := #[.val (.int a), .val (.int b), .val (.int cc), .val (.int d), .val (.int e), .val (.int nn), .val (.int ct), .val ((.ref a2)), .unset, .unset]) (S' := []) rfl ⟨(XT.ii_lt_t hc53), trivial⟩ ?_
        refine wp_run ok hK (B := [(62, .iload 6, false), (64, .iconst 5, false), (65, .if_icmp .lt 10, true), (75, .aload 7, false)]) (by decide +kernel) (pc' := 77) (L' := #[.val (.int a), .val (.int b), .val (.int cc), .val (.int d), .val (.int e), .val (.int nn), .val (.int ct), .val ((.ref a2)), .unset, .unset]) (S' := [(.ref a2)]) rfl ⟨(XT.ii_lt_t (own_law_14 a b cc d e nn ct h_ct hc29 hc41 hc53)), trivial⟩ ?_
        refine wp_virtual ok (wd hw 19 rfl) (wd hw 20 rfl) (wd hw 22 rfl) (wd hw 21 rfl) (wd hw 2 rfl) (wd hw 23 rfl) (by decide) (argsL := []) (rest := []) E111 (c_rem _ Z a0 hw a2 a11 (3 : Int32) 4 2 (lst [.int a, .int b, .int cc, .int (0 : Int32)]) cc h108 n0 Z112 E111 F104 F113 g8 A110 rfl (by decide) rfl) (ps := []) (by decide +kernel) (by rfl) (by rfl) (by rfl) (by decide +kernel) (by decide) (Nat.le_of_ble_eq_true rfl) (by decide) (by decide) ?_
        intro r118 h119 q120
        obtain ⟨rfl, K115, F116, F117⟩ := q120
        have A121 := A110.keep K115 (by simp only [List.mem_cons, List.not_mem_nil, or_false, not_or]; exact (Ne.symm N114))
        have E122 := E111.keep K115
        have Z123 : n0 ≤ h119.size := Nat.le_trans Z112 K115.1
        have F124 : Fld Z h119 a2 "com/example/fenpei/fenpei/IntList" "size" "I" (.int (2 : Int32)) := Fld_c F117 (by decide)
        have N125 : a2 ≠ a11 := ne_ar E122 (wd hw 1 rfl) A121
        show WP X n0 QL h119 2 6 80 #[.val (.int a), .val (.int b), .val (.int cc), .val (.int d), .val (.int e), .val (.int nn), .val (.int ct), .val ((.ref a2)), .unset, .unset] [.int cc]
        refine wp_run ok hK (B := [(80, .istore 8, false), (82, .iload 8, false), (84, .iload 6, false), (86, .iconst 1, false), (87, .isub, false), (88, .iload_n 0, false), (89, .iload_n 1, false), (90, .iload_n 2, false), (91, .iload_n 3, false), (92, .iload 4, false)]) (by decide +kernel) (pc' := 94) (L' := #[.val (.int a), .val (.int b), .val (.int cc), .val (.int d), .val (.int e), .val (.int nn), .val (.int ct), .val ((.ref a2)), .val (.int cc), .unset]) (S' := [.int e, .int d, .int cc, .int b, .int a, .int (ct - (1 : Int32)), .int cc]) rfl trivial ?_
        refine wp_static ok (wd hw 24 rfl) (wd hw 25 rfl) (wd hw 26 rfl) (wd hw 27 rfl) (by decide) (argsL := [.int (ct - (1 : Int32)), .int a, .int b, .int cc, .int d, .int e]) (rest := [.int cc]) (c_pick _ Z a0 hw (ct - (1 : Int32)) a b cc d e h119 n0 Z123 ) (ps := [.int, .int, .int, .int, .int, .int]) (by decide +kernel) (by rfl) (by rfl) (by rfl) (by decide +kernel) (by decide) (Nat.le_of_ble_eq_true rfl) (by decide) (by decide) ?_
        intro r126 h127 q128
        obtain ⟨e129, rfl⟩ := q128
        obtain ⟨z94, h_z94⟩ : ∃ z : Int32, z = (if (ct - (1 : Int32)) = (0 : Int32) then a else (if (ct - (1 : Int32)) = (1 : Int32) then b else (if (ct - (1 : Int32)) = (2 : Int32) then cc else (if (ct - (1 : Int32)) = (3 : Int32) then d else e)))) := ⟨_, rfl⟩
        have e129' := e129.trans (show _ = some (Value.int z94) by rw [h_z94])
        subst e129'
        show WP X n0 QL h119 2 6 97 #[.val (.int a), .val (.int b), .val (.int cc), .val (.int d), .val (.int e), .val (.int nn), .val (.int ct), .val ((.ref a2)), .val (.int cc), .unset] [.int z94, .int cc]
        refine wp_run ok hK (B := [(97, .if_icmp .eq 5, true), (102, .aload 7, false)]) (by decide +kernel) (pc' := 104) (L' := #[.val (.int a), .val (.int b), .val (.int cc), .val (.int d), .val (.int e), .val (.int nn), .val (.int ct), .val ((.ref a2)), .val (.int cc), .unset]) (S' := [(.ref a2)]) rfl ⟨(XT.ii_eq_t (own_law_15 a b cc d e nn ct h_ct hc29 hc41 hc53 z94 h_z94)), trivial⟩ ?_
        refine wp_virtual ok (wd hw 28 rfl) (wd hw 29 rfl) (wd hw 31 rfl) (wd hw 30 rfl) (wd hw 2 rfl) (wd hw 32 rfl) (by decide) (argsL := []) (rest := []) E122 (c_siz _ Z a0 hw a2 (2 : Int32) h119 n0 Z123 E122 F124 g8) (ps := []) (by decide +kernel) (by rfl) (by rfl) (by rfl) (by decide +kernel) (by decide) (Nat.le_of_ble_eq_true rfl) (by decide) (by decide) ?_
        intro r130 h131 q132
        obtain ⟨rfl, rfl⟩ := q132
        show WP X n0 QL h119 2 6 107 #[.val (.int a), .val (.int b), .val (.int cc), .val (.int d), .val (.int e), .val (.int nn), .val (.int ct), .val ((.ref a2)), .val (.int cc), .unset] [.int (2 : Int32)]
        refine wp_run ok hK (B := [(107, .iload 6, false), (109, .iconst 1, false), (110, .isub, false), (111, .if_icmp .eq 5, true), (116, .iload 6, false), (118, .iconst 2, false), (119, .if_icmp .ge 5, true), (124, .aload 7, false)]) (by decide +kernel) (pc' := 126) (L' := #[.val (.int a), .val (.int b), .val (.int cc), .val (.int d), .val (.int e), .val (.int nn), .val (.int ct), .val ((.ref a2)), .val (.int cc), .unset]) (S' := [(.ref a2)]) rfl ⟨(XT.ii_eq_t (own_law_16 a b cc d e nn ct h_ct hc29 hc41 hc53 z94 h_z94)), (XT.ii_ge_t hc29), trivial⟩ ?_
        refine wp_virtual ok (wd hw 19 rfl) (wd hw 20 rfl) (wd hw 22 rfl) (wd hw 21 rfl) (wd hw 2 rfl) (wd hw 23 rfl) (by decide) (argsL := []) (rest := []) E122 (c_rem _ Z a0 hw a2 a11 (2 : Int32) 4 1 (lst [.int a, .int b, .int cc, .int (0 : Int32)]) b h119 n0 Z123 E122 F116 F124 g8 A121 rfl (by decide) rfl) (ps := []) (by decide +kernel) (by rfl) (by rfl) (by rfl) (by decide +kernel) (by decide) (Nat.le_of_ble_eq_true rfl) (by decide) (by decide) ?_
        intro r136 h137 q138
        obtain ⟨rfl, K133, F134, F135⟩ := q138
        have A139 := A121.keep K133 (by simp only [List.mem_cons, List.not_mem_nil, or_false, not_or]; exact (Ne.symm N125))
        have E140 := E122.keep K133
        have Z141 : n0 ≤ h137.size := Nat.le_trans Z123 K133.1
        have F142 : Fld Z h137 a2 "com/example/fenpei/fenpei/IntList" "size" "I" (.int (1 : Int32)) := Fld_c F135 (by decide)
        have N143 : a2 ≠ a11 := ne_ar E140 (wd hw 1 rfl) A139
        show WP X n0 QL h137 2 6 129 #[.val (.int a), .val (.int b), .val (.int cc), .val (.int d), .val (.int e), .val (.int nn), .val (.int ct), .val ((.ref a2)), .val (.int cc), .unset] [.int b]
        refine wp_run ok hK (B := [(129, .istore 9, false), (131, .iload 9, false), (133, .iload 6, false), (135, .iconst 2, false), (136, .isub, false), (137, .iload_n 0, false), (138, .iload_n 1, false), (139, .iload_n 2, false), (140, .iload_n 3, false), (141, .iload 4, false)]) (by decide +kernel) (pc' := 143) (L' := #[.val (.int a), .val (.int b), .val (.int cc), .val (.int d), .val (.int e), .val (.int nn), .val (.int ct), .val ((.ref a2)), .val (.int cc), .val (.int b)]) (S' := [.int e, .int d, .int cc, .int b, .int a, .int (ct - (2 : Int32)), .int b]) rfl trivial ?_
        refine wp_static ok (wd hw 24 rfl) (wd hw 25 rfl) (wd hw 26 rfl) (wd hw 27 rfl) (by decide) (argsL := [.int (ct - (2 : Int32)), .int a, .int b, .int cc, .int d, .int e]) (rest := [.int b]) (c_pick _ Z a0 hw (ct - (2 : Int32)) a b cc d e h137 n0 Z141 ) (ps := [.int, .int, .int, .int, .int, .int]) (by decide +kernel) (by rfl) (by rfl) (by rfl) (by decide +kernel) (by decide) (Nat.le_of_ble_eq_true rfl) (by decide) (by decide) ?_
        intro r144 h145 q146
        obtain ⟨e147, rfl⟩ := q146
        obtain ⟨z143, h_z143⟩ : ∃ z : Int32, z = (if (ct - (2 : Int32)) = (0 : Int32) then a else (if (ct - (2 : Int32)) = (1 : Int32) then b else (if (ct - (2 : Int32)) = (2 : Int32) then cc else (if (ct - (2 : Int32)) = (3 : Int32) then d else e)))) := ⟨_, rfl⟩
        have e147' := e147.trans (show _ = some (Value.int z143) by rw [h_z143])
        subst e147'
        show WP X n0 QL h137 2 6 146 #[.val (.int a), .val (.int b), .val (.int cc), .val (.int d), .val (.int e), .val (.int nn), .val (.int ct), .val ((.ref a2)), .val (.int cc), .val (.int b)] [.int z143, .int b]
        refine wp_run ok hK (B := [(146, .if_icmp .eq 5, true), (151, .aload 7, false)]) (by decide +kernel) (pc' := 153) (L' := #[.val (.int a), .val (.int b), .val (.int cc), .val (.int d), .val (.int e), .val (.int nn), .val (.int ct), .val ((.ref a2)), .val (.int cc), .val (.int b)]) (S' := [(.ref a2)]) rfl ⟨(XT.ii_eq_t (own_law_17 a b cc d e nn ct h_ct hc29 hc41 hc53 z94 h_z94 z143 h_z143)), trivial⟩ ?_
        refine wp_virtual ok (wd hw 28 rfl) (wd hw 29 rfl) (wd hw 31 rfl) (wd hw 30 rfl) (wd hw 2 rfl) (wd hw 32 rfl) (by decide) (argsL := []) (rest := []) E140 (c_siz _ Z a0 hw a2 (1 : Int32) h137 n0 Z141 E140 F142 g8) (ps := []) (by decide +kernel) (by rfl) (by rfl) (by rfl) (by decide +kernel) (by decide) (Nat.le_of_ble_eq_true rfl) (by decide) (by decide) ?_
        intro r148 h149 q150
        obtain ⟨rfl, rfl⟩ := q150
        show WP X n0 QL h137 2 6 156 #[.val (.int a), .val (.int b), .val (.int cc), .val (.int d), .val (.int e), .val (.int nn), .val (.int ct), .val ((.ref a2)), .val (.int cc), .val (.int b)] [.int (1 : Int32)]
        refine wp_run ok hK (B := [(156, .iload 6, false), (158, .iconst 2, false), (159, .isub, false), (160, .if_icmp .ne 7, false), (163, .iconst 1, false), (164, .goto 4, false)]) (by decide +kernel) (pc' := 168) (L' := #[.val (.int a), .val (.int b), .val (.int cc), .val (.int d), .val (.int e), .val (.int nn), .val (.int ct), .val ((.ref a2)), .val (.int cc), .val (.int b)]) (S' := [.int (1 : Int32)]) rfl ⟨(XT.ii_ne_f (own_law_18 a b cc d e nn ct h_ct hc29 hc41 hc53 z94 h_z94 z143 h_z143)), trivial⟩ ?_
        refine wp_retZ ok (t := .boolean) (by simp) (by decide +kernel) (by decide) (by decide) ?_
        exact congrArg (fun z => some (Value.int z)) (own_law_19 a b cc d e nn ct h_ct hc29 hc41 hc53 z94 h_z94 z143 h_z143)
      · refine wp_run ok hK (B := [(53, .if_icmp .lt 9, false)]) (by decide +kernel) (pc' := 56) (L' := #[.val (.int a), .val (.int b), .val (.int cc), .val (.int d), .val (.int e), .val (.int nn), .val (.int ct), .val ((.ref a2)), .unset, .unset]) (S' := []) rfl ⟨(XT.ii_lt_f hc53), trivial⟩ ?_
        refine wp_run ok hK (B := [(56, .aload 7, false), (58, .iload_n 3, false)]) (by decide +kernel) (pc' := 59) (L' := #[.val (.int a), .val (.int b), .val (.int cc), .val (.int d), .val (.int e), .val (.int nn), .val (.int ct), .val ((.ref a2)), .unset, .unset]) (S' := [.int d, (.ref a2)]) rfl trivial ?_
        refine wp_virtual ok (wd hw 12 rfl) (wd hw 13 rfl) (wd hw 15 rfl) (wd hw 14 rfl) (wd hw 2 rfl) (wd hw 16 rfl) (by decide) (argsL := [.int d]) (rest := []) E111 (c_ad1 _ Z a0 hw a2 d a11 (3 : Int32) a b cc (0 : Int32) 3 h108 n0 Z112 E111 F104 F113 g8 A110 g21 rfl (by decide)) (ps := [.int]) (by decide +kernel) (by rfl) (by rfl) (by rfl) (by decide +kernel) (by decide) (Nat.le_of_ble_eq_true rfl) (by decide) (by decide) ?_
        intro r155 h156 q157
        obtain ⟨rfl, K151, F152, F153, A154⟩ := q157
        have A158 : Ar Z h156 a11 .int 4 (lst [.int a, .int b, .int cc, .int d]) := A154
        have E159 := E111.keep K151
        have Z160 : n0 ≤ h156.size := Nat.le_trans Z112 K151.1
        have F161 : Fld Z h156 a2 "com/example/fenpei/fenpei/IntList" "size" "I" (.int (4 : Int32)) := Fld_c F153 (by decide)
        have N162 : a2 ≠ a11 := ne_ar E159 (wd hw 1 rfl) A158
        show WP X n0 QL h156 2 6 62 #[.val (.int a), .val (.int b), .val (.int cc), .val (.int d), .val (.int e), .val (.int nn), .val (.int ct), .val ((.ref a2)), .unset, .unset] []
        refine wp_run ok hK (B := [(62, .iload 6, false), (64, .iconst 5, false)]) (by decide +kernel) (pc' := 65) (L' := #[.val (.int a), .val (.int b), .val (.int cc), .val (.int d), .val (.int e), .val (.int nn), .val (.int ct), .val ((.ref a2)), .unset, .unset]) (S' := [.int (5 : Int32), .int ct]) rfl trivial ?_
        by_cases hc65 : ct < (5 : Int32)
        · refine wp_run ok hK (B := [(65, .if_icmp .lt 10, true)]) (by decide +kernel) (pc' := 75) (L' := #[.val (.int a), .val (.int b), .val (.int cc), .val (.int d), .val (.int e), .val (.int nn), .val (.int ct), .val ((.ref a2)), .unset, .unset]) (S' := []) rfl ⟨(XT.ii_lt_t hc65), trivial⟩ ?_
          refine wp_run ok hK (B := [(75, .aload 7, false)]) (by decide +kernel) (pc' := 77) (L' := #[.val (.int a), .val (.int b), .val (.int cc), .val (.int d), .val (.int e), .val (.int nn), .val (.int ct), .val ((.ref a2)), .unset, .unset]) (S' := [(.ref a2)]) rfl trivial ?_
          refine wp_virtual ok (wd hw 19 rfl) (wd hw 20 rfl) (wd hw 22 rfl) (wd hw 21 rfl) (wd hw 2 rfl) (wd hw 23 rfl) (by decide) (argsL := []) (rest := []) E159 (c_rem _ Z a0 hw a2 a11 (4 : Int32) 4 3 (lst [.int a, .int b, .int cc, .int d]) d h156 n0 Z160 E159 F152 F161 g8 A158 rfl (by decide) rfl) (ps := []) (by decide +kernel) (by rfl) (by rfl) (by rfl) (by decide +kernel) (by decide) (Nat.le_of_ble_eq_true rfl) (by decide) (by decide) ?_
          intro r166 h167 q168
          obtain ⟨rfl, K163, F164, F165⟩ := q168
          have A169 := A158.keep K163 (by simp only [List.mem_cons, List.not_mem_nil, or_false, not_or]; exact (Ne.symm N162))
          have E170 := E159.keep K163
          have Z171 : n0 ≤ h167.size := Nat.le_trans Z160 K163.1
          have F172 : Fld Z h167 a2 "com/example/fenpei/fenpei/IntList" "size" "I" (.int (3 : Int32)) := Fld_c F165 (by decide)
          have N173 : a2 ≠ a11 := ne_ar E170 (wd hw 1 rfl) A169
          show WP X n0 QL h167 2 6 80 #[.val (.int a), .val (.int b), .val (.int cc), .val (.int d), .val (.int e), .val (.int nn), .val (.int ct), .val ((.ref a2)), .unset, .unset] [.int d]
          refine wp_run ok hK (B := [(80, .istore 8, false), (82, .iload 8, false), (84, .iload 6, false), (86, .iconst 1, false), (87, .isub, false), (88, .iload_n 0, false), (89, .iload_n 1, false), (90, .iload_n 2, false), (91, .iload_n 3, false), (92, .iload 4, false)]) (by decide +kernel) (pc' := 94) (L' := #[.val (.int a), .val (.int b), .val (.int cc), .val (.int d), .val (.int e), .val (.int nn), .val (.int ct), .val ((.ref a2)), .val (.int d), .unset]) (S' := [.int e, .int d, .int cc, .int b, .int a, .int (ct - (1 : Int32)), .int d]) rfl trivial ?_
          refine wp_static ok (wd hw 24 rfl) (wd hw 25 rfl) (wd hw 26 rfl) (wd hw 27 rfl) (by decide) (argsL := [.int (ct - (1 : Int32)), .int a, .int b, .int cc, .int d, .int e]) (rest := [.int d]) (c_pick _ Z a0 hw (ct - (1 : Int32)) a b cc d e h167 n0 Z171 ) (ps := [.int, .int, .int, .int, .int, .int]) (by decide +kernel) (by rfl) (by rfl) (by rfl) (by decide +kernel) (by decide) (Nat.le_of_ble_eq_true rfl) (by decide) (by decide) ?_
          intro r174 h175 q176
          obtain ⟨e177, rfl⟩ := q176
          obtain ⟨z94, h_z94⟩ : ∃ z : Int32, z = (if (ct - (1 : Int32)) = (0 : Int32) then a else (if (ct - (1 : Int32)) = (1 : Int32) then b else (if (ct - (1 : Int32)) = (2 : Int32) then cc else (if (ct - (1 : Int32)) = (3 : Int32) then d else e)))) := ⟨_, rfl⟩
          have e177' := e177.trans (show _ = some (Value.int z94) by rw [h_z94])
          subst e177'
          show WP X n0 QL h167 2 6 97 #[.val (.int a), .val (.int b), .val (.int cc), .val (.int d), .val (.int e), .val (.int nn), .val (.int ct), .val ((.ref a2)), .val (.int d), .unset] [.int z94, .int d]
          refine wp_run ok hK (B := [(97, .if_icmp .eq 5, true), (102, .aload 7, false)]) (by decide +kernel) (pc' := 104) (L' := #[.val (.int a), .val (.int b), .val (.int cc), .val (.int d), .val (.int e), .val (.int nn), .val (.int ct), .val ((.ref a2)), .val (.int d), .unset]) (S' := [(.ref a2)]) rfl ⟨(XT.ii_eq_t (own_law_20 a b cc d e nn ct h_ct hc29 hc41 hc53 hc65 z94 h_z94)), trivial⟩ ?_
          refine wp_virtual ok (wd hw 28 rfl) (wd hw 29 rfl) (wd hw 31 rfl) (wd hw 30 rfl) (wd hw 2 rfl) (wd hw 32 rfl) (by decide) (argsL := []) (rest := []) E170 (c_siz _ Z a0 hw a2 (3 : Int32) h167 n0 Z171 E170 F172 g8) (ps := []) (by decide +kernel) (by rfl) (by rfl) (by rfl) (by decide +kernel) (by decide) (Nat.le_of_ble_eq_true rfl) (by decide) (by decide) ?_
          intro r178 h179 q180
          obtain ⟨rfl, rfl⟩ := q180
          show WP X n0 QL h167 2 6 107 #[.val (.int a), .val (.int b), .val (.int cc), .val (.int d), .val (.int e), .val (.int nn), .val (.int ct), .val ((.ref a2)), .val (.int d), .unset] [.int (3 : Int32)]
          refine wp_run ok hK (B := [(107, .iload 6, false), (109, .iconst 1, false), (110, .isub, false), (111, .if_icmp .eq 5, true), (116, .iload 6, false), (118, .iconst 2, false), (119, .if_icmp .ge 5, true), (124, .aload 7, false)]) (by decide +kernel) (pc' := 126) (L' := #[.val (.int a), .val (.int b), .val (.int cc), .val (.int d), .val (.int e), .val (.int nn), .val (.int ct), .val ((.ref a2)), .val (.int d), .unset]) (S' := [(.ref a2)]) rfl ⟨(XT.ii_eq_t (own_law_21 a b cc d e nn ct h_ct hc29 hc41 hc53 hc65 z94 h_z94)), (XT.ii_ge_t hc29), trivial⟩ ?_
          refine wp_virtual ok (wd hw 19 rfl) (wd hw 20 rfl) (wd hw 22 rfl) (wd hw 21 rfl) (wd hw 2 rfl) (wd hw 23 rfl) (by decide) (argsL := []) (rest := []) E170 (c_rem _ Z a0 hw a2 a11 (3 : Int32) 4 2 (lst [.int a, .int b, .int cc, .int d]) cc h167 n0 Z171 E170 F164 F172 g8 A169 rfl (by decide) rfl) (ps := []) (by decide +kernel) (by rfl) (by rfl) (by rfl) (by decide +kernel) (by decide) (Nat.le_of_ble_eq_true rfl) (by decide) (by decide) ?_
          intro r184 h185 q186
          obtain ⟨rfl, K181, F182, F183⟩ := q186
          have A187 := A169.keep K181 (by simp only [List.mem_cons, List.not_mem_nil, or_false, not_or]; exact (Ne.symm N173))
          have E188 := E170.keep K181
          have Z189 : n0 ≤ h185.size := Nat.le_trans Z171 K181.1
          have F190 : Fld Z h185 a2 "com/example/fenpei/fenpei/IntList" "size" "I" (.int (2 : Int32)) := Fld_c F183 (by decide)
          have N191 : a2 ≠ a11 := ne_ar E188 (wd hw 1 rfl) A187
          show WP X n0 QL h185 2 6 129 #[.val (.int a), .val (.int b), .val (.int cc), .val (.int d), .val (.int e), .val (.int nn), .val (.int ct), .val ((.ref a2)), .val (.int d), .unset] [.int cc]
          refine wp_run ok hK (B := [(129, .istore 9, false), (131, .iload 9, false), (133, .iload 6, false), (135, .iconst 2, false), (136, .isub, false), (137, .iload_n 0, false), (138, .iload_n 1, false), (139, .iload_n 2, false), (140, .iload_n 3, false), (141, .iload 4, false)]) (by decide +kernel) (pc' := 143) (L' := #[.val (.int a), .val (.int b), .val (.int cc), .val (.int d), .val (.int e), .val (.int nn), .val (.int ct), .val ((.ref a2)), .val (.int d), .val (.int cc)]) (S' := [.int e, .int d, .int cc, .int b, .int a, .int (ct - (2 : Int32)), .int cc]) rfl trivial ?_
          refine wp_static ok (wd hw 24 rfl) (wd hw 25 rfl) (wd hw 26 rfl) (wd hw 27 rfl) (by decide) (argsL := [.int (ct - (2 : Int32)), .int a, .int b, .int cc, .int d, .int e]) (rest := [.int cc]) (c_pick _ Z a0 hw (ct - (2 : Int32)) a b cc d e h185 n0 Z189 ) (ps := [.int, .int, .int, .int, .int, .int]) (by decide +kernel) (by rfl) (by rfl) (by rfl) (by decide +kernel) (by decide) (Nat.le_of_ble_eq_true rfl) (by decide) (by decide) ?_
          intro r192 h193 q194
          obtain ⟨e195, rfl⟩ := q194
          obtain ⟨z143, h_z143⟩ : ∃ z : Int32, z = (if (ct - (2 : Int32)) = (0 : Int32) then a else (if (ct - (2 : Int32)) = (1 : Int32) then b else (if (ct - (2 : Int32)) = (2 : Int32) then cc else (if (ct - (2 : Int32)) = (3 : Int32) then d else e)))) := ⟨_, rfl⟩
          have e195' := e195.trans (show _ = some (Value.int z143) by rw [h_z143])
          subst e195'
          show WP X n0 QL h185 2 6 146 #[.val (.int a), .val (.int b), .val (.int cc), .val (.int d), .val (.int e), .val (.int nn), .val (.int ct), .val ((.ref a2)), .val (.int d), .val (.int cc)] [.int z143, .int cc]
          refine wp_run ok hK (B := [(146, .if_icmp .eq 5, true), (151, .aload 7, false)]) (by decide +kernel) (pc' := 153) (L' := #[.val (.int a), .val (.int b), .val (.int cc), .val (.int d), .val (.int e), .val (.int nn), .val (.int ct), .val ((.ref a2)), .val (.int d), .val (.int cc)]) (S' := [(.ref a2)]) rfl ⟨(XT.ii_eq_t (own_law_22 a b cc d e nn ct h_ct hc29 hc41 hc53 hc65 z94 h_z94 z143 h_z143)), trivial⟩ ?_
          refine wp_virtual ok (wd hw 28 rfl) (wd hw 29 rfl) (wd hw 31 rfl) (wd hw 30 rfl) (wd hw 2 rfl) (wd hw 32 rfl) (by decide) (argsL := []) (rest := []) E188 (c_siz _ Z a0 hw a2 (2 : Int32) h185 n0 Z189 E188 F190 g8) (ps := []) (by decide +kernel) (by rfl) (by rfl) (by rfl) (by decide +kernel) (by decide) (Nat.le_of_ble_eq_true rfl) (by decide) (by decide) ?_
          intro r196 h197 q198
          obtain ⟨rfl, rfl⟩ := q198
          show WP X n0 QL h185 2 6 156 #[.val (.int a), .val (.int b), .val (.int cc), .val (.int d), .val (.int e), .val (.int nn), .val (.int ct), .val ((.ref a2)), .val (.int d), .val (.int cc)] [.int (2 : Int32)]
          refine wp_run ok hK (B := [(156, .iload 6, false), (158, .iconst 2, false), (159, .isub, false), (160, .if_icmp .ne 7, false), (163, .iconst 1, false), (164, .goto 4, false)]) (by decide +kernel) (pc' := 168) (L' := #[.val (.int a), .val (.int b), .val (.int cc), .val (.int d), .val (.int e), .val (.int nn), .val (.int ct), .val ((.ref a2)), .val (.int d), .val (.int cc)]) (S' := [.int (1 : Int32)]) rfl ⟨(XT.ii_ne_f (own_law_23 a b cc d e nn ct h_ct hc29 hc41 hc53 hc65 z94 h_z94 z143 h_z143)), trivial⟩ ?_
          refine wp_retZ ok (t := .boolean) (by simp) (by decide +kernel) (by decide) (by decide) ?_
          exact congrArg (fun z => some (Value.int z)) (own_law_24 a b cc d e nn ct h_ct hc29 hc41 hc53 hc65 z94 h_z94 z143 h_z143)
        · refine wp_run ok hK (B := [(65, .if_icmp .lt 10, false)]) (by decide +kernel) (pc' := 68) (L' := #[.val (.int a), .val (.int b), .val (.int cc), .val (.int d), .val (.int e), .val (.int nn), .val (.int ct), .val ((.ref a2)), .unset, .unset]) (S' := []) rfl ⟨(XT.ii_lt_f hc65), trivial⟩ ?_
          refine wp_run ok hK (B := [(68, .aload 7, false), (70, .iload 4, false)]) (by decide +kernel) (pc' := 72) (L' := #[.val (.int a), .val (.int b), .val (.int cc), .val (.int d), .val (.int e), .val (.int nn), .val (.int ct), .val ((.ref a2)), .unset, .unset]) (S' := [.int e, (.ref a2)]) rfl trivial ?_
          refine wp_virtual ok (wd hw 12 rfl) (wd hw 13 rfl) (wd hw 15 rfl) (wd hw 14 rfl) (wd hw 2 rfl) (wd hw 16 rfl) (by decide) (argsL := [.int e]) (rest := []) E159 (c_ad2 _ Z a0 hw a2 e a11 a b cc d h156 n0 Z160 E159 F152 F161 g8 A158 g21) (ps := [.int]) (by decide +kernel) (by rfl) (by rfl) (by rfl) (by decide +kernel) (by decide) (Nat.le_of_ble_eq_true rfl) (by decide) (by decide) ?_
          intro r205 h206 q207
          obtain ⟨a199, rfl, K200, g201, F202, F203, A204⟩ := q207
          have E208 := E159.keep K200
          have g209 : n0 ≤ a199 := Nat.le_trans Z160 g201
          have Z210 : n0 ≤ h206.size := Nat.le_trans Z160 K200.1
          have F211 : Fld Z h206 a2 "com/example/fenpei/fenpei/IntList" "size" "I" (.int (5 : Int32)) := Fld_c F203 (by decide)
          have N212 : a2 ≠ a199 := ne_ar E208 (wd hw 1 rfl) A204
          show WP X n0 QL h206 3 14 75 #[.val (.int a), .val (.int b), .val (.int cc), .val (.int d), .val (.int e), .val (.int nn), .val (.int ct), .val ((.ref a2)), .unset, .unset] []
          refine wp_run ok hK (B := [(75, .aload 7, false)]) (by decide +kernel) (pc' := 77) (L' := #[.val (.int a), .val (.int b), .val (.int cc), .val (.int d), .val (.int e), .val (.int nn), .val (.int ct), .val ((.ref a2)), .unset, .unset]) (S' := [(.ref a2)]) rfl trivial ?_
          refine wp_virtual ok (wd hw 19 rfl) (wd hw 20 rfl) (wd hw 22 rfl) (wd hw 21 rfl) (wd hw 2 rfl) (wd hw 23 rfl) (by decide) (argsL := []) (rest := []) E208 (c_rem _ Z a0 hw a2 a199 (5 : Int32) 8 4 (lst [.int a, .int b, .int cc, .int d, .int e, .int (0 : Int32), .int (0 : Int32), .int (0 : Int32)]) e h206 n0 Z210 E208 F202 F211 g8 A204 rfl (by decide) rfl) (ps := []) (by decide +kernel) (by rfl) (by rfl) (by rfl) (by decide +kernel) (by decide) (Nat.le_of_ble_eq_true rfl) (by decide) (by decide) ?_
          intro r216 h217 q218
          obtain ⟨rfl, K213, F214, F215⟩ := q218
          have A219 := A204.keep K213 (by simp only [List.mem_cons, List.not_mem_nil, or_false, not_or]; exact (Ne.symm N212))
          have E220 := E208.keep K213
          have Z221 : n0 ≤ h217.size := Nat.le_trans Z210 K213.1
          have F222 : Fld Z h217 a2 "com/example/fenpei/fenpei/IntList" "size" "I" (.int (4 : Int32)) := Fld_c F215 (by decide)
          have N223 : a2 ≠ a199 := ne_ar E220 (wd hw 1 rfl) A219
          show WP X n0 QL h217 3 14 80 #[.val (.int a), .val (.int b), .val (.int cc), .val (.int d), .val (.int e), .val (.int nn), .val (.int ct), .val ((.ref a2)), .unset, .unset] [.int e]
          refine wp_run ok hK (B := [(80, .istore 8, false), (82, .iload 8, false), (84, .iload 6, false), (86, .iconst 1, false), (87, .isub, false), (88, .iload_n 0, false), (89, .iload_n 1, false), (90, .iload_n 2, false), (91, .iload_n 3, false), (92, .iload 4, false)]) (by decide +kernel) (pc' := 94) (L' := #[.val (.int a), .val (.int b), .val (.int cc), .val (.int d), .val (.int e), .val (.int nn), .val (.int ct), .val ((.ref a2)), .val (.int e), .unset]) (S' := [.int e, .int d, .int cc, .int b, .int a, .int (ct - (1 : Int32)), .int e]) rfl trivial ?_
          refine wp_static ok (wd hw 24 rfl) (wd hw 25 rfl) (wd hw 26 rfl) (wd hw 27 rfl) (by decide) (argsL := [.int (ct - (1 : Int32)), .int a, .int b, .int cc, .int d, .int e]) (rest := [.int e]) (c_pick _ Z a0 hw (ct - (1 : Int32)) a b cc d e h217 n0 Z221 ) (ps := [.int, .int, .int, .int, .int, .int]) (by decide +kernel) (by rfl) (by rfl) (by rfl) (by decide +kernel) (by decide) (Nat.le_of_ble_eq_true rfl) (by decide) (by decide) ?_
          intro r224 h225 q226
          obtain ⟨e227, rfl⟩ := q226
          obtain ⟨z94, h_z94⟩ : ∃ z : Int32, z = (if (ct - (1 : Int32)) = (0 : Int32) then a else (if (ct - (1 : Int32)) = (1 : Int32) then b else (if (ct - (1 : Int32)) = (2 : Int32) then cc else (if (ct - (1 : Int32)) = (3 : Int32) then d else e)))) := ⟨_, rfl⟩
          have e227' := e227.trans (show _ = some (Value.int z94) by rw [h_z94])
          subst e227'
          show WP X n0 QL h217 3 14 97 #[.val (.int a), .val (.int b), .val (.int cc), .val (.int d), .val (.int e), .val (.int nn), .val (.int ct), .val ((.ref a2)), .val (.int e), .unset] [.int z94, .int e]
          refine wp_run ok hK (B := [(97, .if_icmp .eq 5, true), (102, .aload 7, false)]) (by decide +kernel) (pc' := 104) (L' := #[.val (.int a), .val (.int b), .val (.int cc), .val (.int d), .val (.int e), .val (.int nn), .val (.int ct), .val ((.ref a2)), .val (.int e), .unset]) (S' := [(.ref a2)]) rfl ⟨(XT.ii_eq_t (own_law_25 a b cc d e nn ct h_ct hc29 hc41 hc53 hc65 z94 h_z94)), trivial⟩ ?_
          refine wp_virtual ok (wd hw 28 rfl) (wd hw 29 rfl) (wd hw 31 rfl) (wd hw 30 rfl) (wd hw 2 rfl) (wd hw 32 rfl) (by decide) (argsL := []) (rest := []) E220 (c_siz _ Z a0 hw a2 (4 : Int32) h217 n0 Z221 E220 F222 g8) (ps := []) (by decide +kernel) (by rfl) (by rfl) (by rfl) (by decide +kernel) (by decide) (Nat.le_of_ble_eq_true rfl) (by decide) (by decide) ?_
          intro r228 h229 q230
          obtain ⟨rfl, rfl⟩ := q230
          show WP X n0 QL h217 3 14 107 #[.val (.int a), .val (.int b), .val (.int cc), .val (.int d), .val (.int e), .val (.int nn), .val (.int ct), .val ((.ref a2)), .val (.int e), .unset] [.int (4 : Int32)]
          refine wp_run ok hK (B := [(107, .iload 6, false), (109, .iconst 1, false), (110, .isub, false), (111, .if_icmp .eq 5, true), (116, .iload 6, false), (118, .iconst 2, false), (119, .if_icmp .ge 5, true), (124, .aload 7, false)]) (by decide +kernel) (pc' := 126) (L' := #[.val (.int a), .val (.int b), .val (.int cc), .val (.int d), .val (.int e), .val (.int nn), .val (.int ct), .val ((.ref a2)), .val (.int e), .unset]) (S' := [(.ref a2)]) rfl ⟨(XT.ii_eq_t (own_law_26 a b cc d e nn ct h_ct hc29 hc41 hc53 hc65 z94 h_z94)), (XT.ii_ge_t hc29), trivial⟩ ?_
          refine wp_virtual ok (wd hw 19 rfl) (wd hw 20 rfl) (wd hw 22 rfl) (wd hw 21 rfl) (wd hw 2 rfl) (wd hw 23 rfl) (by decide) (argsL := []) (rest := []) E220 (c_rem _ Z a0 hw a2 a199 (4 : Int32) 8 3 (lst [.int a, .int b, .int cc, .int d, .int e, .int (0 : Int32), .int (0 : Int32), .int (0 : Int32)]) d h217 n0 Z221 E220 F214 F222 g8 A219 rfl (by decide) rfl) (ps := []) (by decide +kernel) (by rfl) (by rfl) (by rfl) (by decide +kernel) (by decide) (Nat.le_of_ble_eq_true rfl) (by decide) (by decide) ?_
          intro r234 h235 q236
          obtain ⟨rfl, K231, F232, F233⟩ := q236
          have A237 := A219.keep K231 (by simp only [List.mem_cons, List.not_mem_nil, or_false, not_or]; exact (Ne.symm N223))
          have E238 := E220.keep K231
          have Z239 : n0 ≤ h235.size := Nat.le_trans Z221 K231.1
          have F240 : Fld Z h235 a2 "com/example/fenpei/fenpei/IntList" "size" "I" (.int (3 : Int32)) := Fld_c F233 (by decide)
          have N241 : a2 ≠ a199 := ne_ar E238 (wd hw 1 rfl) A237
          show WP X n0 QL h235 3 14 129 #[.val (.int a), .val (.int b), .val (.int cc), .val (.int d), .val (.int e), .val (.int nn), .val (.int ct), .val ((.ref a2)), .val (.int e), .unset] [.int d]
          refine wp_run ok hK (B := [(129, .istore 9, false), (131, .iload 9, false), (133, .iload 6, false), (135, .iconst 2, false), (136, .isub, false), (137, .iload_n 0, false), (138, .iload_n 1, false), (139, .iload_n 2, false), (140, .iload_n 3, false), (141, .iload 4, false)]) (by decide +kernel) (pc' := 143) (L' := #[.val (.int a), .val (.int b), .val (.int cc), .val (.int d), .val (.int e), .val (.int nn), .val (.int ct), .val ((.ref a2)), .val (.int e), .val (.int d)]) (S' := [.int e, .int d, .int cc, .int b, .int a, .int (ct - (2 : Int32)), .int d]) rfl trivial ?_
          refine wp_static ok (wd hw 24 rfl) (wd hw 25 rfl) (wd hw 26 rfl) (wd hw 27 rfl) (by decide) (argsL := [.int (ct - (2 : Int32)), .int a, .int b, .int cc, .int d, .int e]) (rest := [.int d]) (c_pick _ Z a0 hw (ct - (2 : Int32)) a b cc d e h235 n0 Z239 ) (ps := [.int, .int, .int, .int, .int, .int]) (by decide +kernel) (by rfl) (by rfl) (by rfl) (by decide +kernel) (by decide) (Nat.le_of_ble_eq_true rfl) (by decide) (by decide) ?_
          intro r242 h243 q244
          obtain ⟨e245, rfl⟩ := q244
          obtain ⟨z143, h_z143⟩ : ∃ z : Int32, z = (if (ct - (2 : Int32)) = (0 : Int32) then a else (if (ct - (2 : Int32)) = (1 : Int32) then b else (if (ct - (2 : Int32)) = (2 : Int32) then cc else (if (ct - (2 : Int32)) = (3 : Int32) then d else e)))) := ⟨_, rfl⟩
          have e245' := e245.trans (show _ = some (Value.int z143) by rw [h_z143])
          subst e245'
          show WP X n0 QL h235 3 14 146 #[.val (.int a), .val (.int b), .val (.int cc), .val (.int d), .val (.int e), .val (.int nn), .val (.int ct), .val ((.ref a2)), .val (.int e), .val (.int d)] [.int z143, .int d]
          refine wp_run ok hK (B := [(146, .if_icmp .eq 5, true), (151, .aload 7, false)]) (by decide +kernel) (pc' := 153) (L' := #[.val (.int a), .val (.int b), .val (.int cc), .val (.int d), .val (.int e), .val (.int nn), .val (.int ct), .val ((.ref a2)), .val (.int e), .val (.int d)]) (S' := [(.ref a2)]) rfl ⟨(XT.ii_eq_t (own_law_27 a b cc d e nn ct h_ct hc29 hc41 hc53 hc65 z94 h_z94 z143 h_z143)), trivial⟩ ?_
          refine wp_virtual ok (wd hw 28 rfl) (wd hw 29 rfl) (wd hw 31 rfl) (wd hw 30 rfl) (wd hw 2 rfl) (wd hw 32 rfl) (by decide) (argsL := []) (rest := []) E238 (c_siz _ Z a0 hw a2 (3 : Int32) h235 n0 Z239 E238 F240 g8) (ps := []) (by decide +kernel) (by rfl) (by rfl) (by rfl) (by decide +kernel) (by decide) (Nat.le_of_ble_eq_true rfl) (by decide) (by decide) ?_
          intro r246 h247 q248
          obtain ⟨rfl, rfl⟩ := q248
          show WP X n0 QL h235 3 14 156 #[.val (.int a), .val (.int b), .val (.int cc), .val (.int d), .val (.int e), .val (.int nn), .val (.int ct), .val ((.ref a2)), .val (.int e), .val (.int d)] [.int (3 : Int32)]
          refine wp_run ok hK (B := [(156, .iload 6, false), (158, .iconst 2, false), (159, .isub, false), (160, .if_icmp .ne 7, false), (163, .iconst 1, false), (164, .goto 4, false)]) (by decide +kernel) (pc' := 168) (L' := #[.val (.int a), .val (.int b), .val (.int cc), .val (.int d), .val (.int e), .val (.int nn), .val (.int ct), .val ((.ref a2)), .val (.int e), .val (.int d)]) (S' := [.int (1 : Int32)]) rfl ⟨(XT.ii_ne_f (own_law_28 a b cc d e nn ct h_ct hc29 hc41 hc53 hc65 z94 h_z94 z143 h_z143)), trivial⟩ ?_
          refine wp_retZ ok (t := .boolean) (by simp) (by decide +kernel) (by decide) (by decide) ?_
          exact congrArg (fun z => some (Value.int z)) (own_law_29 a b cc d e nn ct h_ct hc29 hc41 hc53 hc65 z94 h_z94 z143 h_z143)
set_option maxRecDepth 65536 in
set_option maxHeartbeats 40000000 in
theorem comes_1 {Post : Tables → Env → Array Value → State → Outcome → State → Prop} (hpost : ∀ tb e args s v u, (limb_1_1.after args s (.returned v) u = true ∧ limb_1_2.after args s (.returned v) u = true ∧ True) → FrameEnd s (.returned v) u (Jvm.fieldLocs frame_1_writes args s ++ Jvm.arrayLocs frame_1_arrays args s ++ Jvm.staticLocs frame_1_statics s) 16 128 → Post tb e args s (.returned v) u) :
    ArmFor flags0 classFile x code maxLocals ret World_1 tables_1 room_1 Calls_1 rest_1 Pre_1 Post := by
  intro l hfl _ _ p e ha hc hk s m args below hf hA hF happ hP
  obtain ⟨hcalls, hrest, hpre⟩ := hP
  obtain ⟨-, -, -, hnamed, -, -, -, hat⟩ := (Spec.applies_iff hf).mp happ
  obtain ⟨hg, hn⟩ := and_e (Cond.before_iff.mp (show (Jvm.Cond.and given_1 narrow_1).before args s = true from hpre))
  obtain ⟨h1, g0⟩ := and_e hg
  obtain ⟨f0, g1⟩ := and_e g0
  obtain ⟨f1, g2⟩ := and_e g1
  obtain ⟨f2, g3⟩ := and_e g2
  obtain ⟨f3, g4⟩ := and_e g3
  obtain ⟨f4, g5⟩ := and_e g4
  obtain ⟨w0, w1, w2, w3, w4, w5, rfl⟩ : ∃ w0 w1 w2 w3 w4 w5 : Value, args = #[w0, w1, w2, w3, w4, w5] := by
    have hs : args.size = 6 := by simpa [Cond.value, given_1] using h1
    obtain ⟨L⟩ := args
    match L, hs with
    | [w0, w1, w2, w3, w4, w5], _ => exact ⟨w0, w1, w2, w3, w4, w5, rfl⟩
  have hw := fun d (hd : d ∈ tables_1) => atoms_spec (ws := Jvm.Cond.code x code maxLocals ret :: tables_1) hat d (List.mem_cons_of_mem _ hd)
  obtain ⟨i0, e0⟩ := is_v f0
  obtain rfl : w0 = (.int i0) := Option.some.inj e0
  obtain ⟨i1, e1⟩ := is_v f1
  obtain rfl : w1 = (.int i1) := Option.some.inj e1
  obtain ⟨i2, e2⟩ := is_v f2
  obtain rfl : w2 = (.int i2) := Option.some.inj e2
  obtain ⟨i3, e3⟩ := is_v f3
  obtain rfl : w3 = (.int i3) := Option.some.inj e3
  obtain ⟨i4, e4⟩ := is_v f4
  obtain rfl : w4 = (.int i4) := Option.some.inj e4
  obtain ⟨i5, e5⟩ := is_v g5
  obtain rfl : w5 = (.int i5) := Option.some.inj e5
  obtain ⟨n, o, h1, h2, h3, _, L, rfl, ⟨rfl, N⟩, hq⟩ := c_law l s _ hw i0 i1 i2 i3 i4 i5 s.heap s.heap.size (Nat.le_refl _) p e ha hc hk s m _ below hf ((Spec.applies_iff_loose hf).mp happ).1 ⟨rfl, State.Warmed39.refl s, rfl⟩ trivial
  refine ⟨n, _, h1, h2, h3, hpost _ _ _ _ _ _ ⟨Cond.after_iff.mpr rfl, Cond.after_iff.mpr (eq_i res_at (Term.int_eval (1)) rfl), trivial⟩ ⟨hq.1, hq.2.1, (hq.2.2.sift fun y hy => Or.inr (N y hy)).mono (by decide) (by decide)⟩⟩
theorem main_1_1 : Claimed_1_1 := comes_1 fun _ _ _ _ _ _ h hF => ⟨h.1, hF⟩
theorem main_1_2 : Claimed_1_2 := comes_1 fun _ _ _ _ _ _ h hF => ⟨h.2.1, hF⟩
end Jvm.Pilot.@@N@@
namespace Jvm.Pilot.@@N@@
open Jvm Jvm.ClassFile Sem Op Lib Jvm.Free Jvm.Stand Jvm.Pilot.@@N@@.Jvm.D
/-! MADE BY PROGRAM (witnessworld.py) out of the Statement's table words and the real class files: 12 classes; the members and pool entries that the words name. The judged class is class 1, her method 2. -/
namespace start1
open Jvm.ClassFile
def u (s : String) : CpInfo := .utf8 (stringToUtf16 s)
/-- a pool by its gaps: so many unusable entries, then the entry; so many at the end -/
def gap : Nat → List CpInfo → List CpInfo
  | 0, r => r
  | n + 1, r => .unusable :: gap n r
def poolList (es : List (Nat × CpInfo)) (last : Nat) : List CpInfo := es.foldr (fun e r => gap e.1 (e.2 :: r)) (gap last [])
def pool (es : List (Nat × CpInfo)) (last : Nat) : Array CpInfo := ⟨poolList es last⟩
def fileOf (pool : Array CpInfo) (this : Nat) (attrs : Array Attribute := #[]) (ms : Array MethodInfo := #[]) (fl : Nat := 33) (sup : Nat := 0) (ifs : Array Nat := #[]) (fds : Array FieldInfo := #[]) : ClassFile where
  minorVersion := 0
  majorVersion := 65
  constantPool := pool
  accessFlags := fl
  thisClass := this
  superClass := sup
  interfaces := ifs
  fields := fds
  methods := ms
  attributes := attrs
def plain (name : String) (sup : Option ClassId) : Class where
  name := name
  kind := .ordinary
  loader := none
  accessFlags := 33
  super := sup
  interfaces := #[]
  cf := none
  fields := #[]
  methods := #[]
  instanceTypes := #[]
  staticTypes := #[]
  resolved := #[]
  callSites := []
  init := .initialized
  statics := none
  mirror := none

def pool0 : Array CpInfo := pool [(5, u "<init>"), (0, u "()V"), (1, .class_ 10), (1, u "java/lang/Object")] 113

def k0c0 : Code := { maxStack := 0, maxLocals := 1, code := object_method_1_code, exceptionTable := #[], attributes := #[] }
def k0m0 : Method := { name := "<init>", desc := "()V", sig := { parameters := [], returnType := none }, accessFlags := 1, code := some k0c0 }
/-- java/lang/Object -/
def k0 : Class := { plain "java/lang/Object" none with
  accessFlags := 33
  interfaces := #[]
  cf := some (fileOf pool0 8 #[] #[{ accessFlags := 1, nameIndex := 5, descriptorIndex := 6, attributes := #[] }] 33 0 #[] #[])
  fields := #[]
  methods := #[k0m0]
  instanceTypes := #[]
  staticTypes := #[]
  resolved := Array.replicate 124 none
  statics := none }

def pool1 : Array CpInfo := pool [(2, .class_ 4), (0, .nameAndType 5 6), (0, u "java/lang/Object"), (0, u "<init>"), (0, u "()V"), (0, .class_ 8), (0, u "com/example/fenpei/fenpei/IntList"), (0, .methodref 7 3), (0, .methodref 7 11), (0, .nameAndType 12 13), (0, u "add"), (0, u "(I)V"), (0, .methodref 7 15), (0, .nameAndType 16 17), (0, u "removeLast"), (0, u "()I"), (0, .methodref 19 20), (0, .class_ 21), (0, .nameAndType 22 23), (0, u "com/example/fenpei/fenpei/IntListRemoveLastPinLaw"), (0, u "pick"), (0, u "(IIIIII)I"), (0, .methodref 7 25), (0, .nameAndType 26 17), (0, u "size"), (3, u "law"), (0, u "(IIIIII)Z")] 2

def k1m0 : Method := { name := "<init>", desc := "()V", sig := { parameters := [], returnType := none }, accessFlags := 1, code := none }
def k1c1 : Code := { maxStack := 2, maxLocals := 6, code := method_2_code, exceptionTable := #[], attributes := #[] }
def k1m1 : Method := { name := "pick", desc := "(IIIIII)I", sig := { parameters := [.int, .int, .int, .int, .int, .int], returnType := some .int }, accessFlags := 10, code := some k1c1 }
def k1c2 : Code := { maxStack := 7, maxLocals := 10, code := code, exceptionTable := #[], attributes := #[] }
def k1m2 : Method := { name := "law", desc := "(IIIIII)Z", sig := { parameters := [.int, .int, .int, .int, .int, .int], returnType := some .boolean }, accessFlags := 9, code := some k1c2 }
/-- com/example/fenpei/fenpei/IntListRemoveLastPinLaw -/
def k1 : Class := { plain "com/example/fenpei/fenpei/IntListRemoveLastPinLaw" (some 0) with
  accessFlags := 49
  interfaces := #[]
  cf := some (fileOf pool1 19 #[] #[{ accessFlags := 1, nameIndex := 5, descriptorIndex := 6, attributes := #[] }, { accessFlags := 10, nameIndex := 22, descriptorIndex := 23, attributes := #[] }, { accessFlags := 9, nameIndex := 30, descriptorIndex := 31, attributes := #[] }] 49 2 #[] #[])
  fields := #[]
  methods := #[k1m0, k1m1, k1m2]
  instanceTypes := #[]
  staticTypes := #[]
  resolved := Array.replicate 34 none
  statics := none }

def pool2 : Array CpInfo := pool [(1, .methodref 2 3), (0, .class_ 4), (0, .nameAndType 5 6), (0, u "java/lang/Object"), (0, u "<init>"), (0, u "()V"), (0, .fieldref 8 9), (0, .class_ 10), (0, .nameAndType 11 12), (0, u "com/example/fenpei/fenpei/IntList"), (0, u "values"), (0, u "[I"), (0, .fieldref 8 14), (0, .nameAndType 15 16), (0, u "size"), (0, u "I"), (0, .methodref 18 19), (0, .class_ 20), (0, .nameAndType 21 22), (0, u "java/util/Arrays"), (0, u "copyOf"), (0, u "([II)[I"), (20, u "add"), (0, u "(I)V"), (4, u "()I"), (0, u "removeLast")] 7

def k2c0 : Code := { maxStack := 2, maxLocals := 1, code := prog_21_method_1_code, exceptionTable := #[], attributes := #[] }
def k2m0 : Method := { name := "<init>", desc := "()V", sig := { parameters := [], returnType := none }, accessFlags := 0, code := some k2c0 }
def k2c1 : Code := { maxStack := 5, maxLocals := 2, code := prog_21_method_2_code, exceptionTable := #[], attributes := #[] }
def k2m1 : Method := { name := "add", desc := "(I)V", sig := { parameters := [.int], returnType := none }, accessFlags := 0, code := some k2c1 }
def k2c2 : Code := { maxStack := 4, maxLocals := 1, code := prog_21_method_5_code, exceptionTable := #[], attributes := #[] }
def k2m2 : Method := { name := "removeLast", desc := "()I", sig := { parameters := [], returnType := some .int }, accessFlags := 0, code := some k2c2 }
def k2c3 : Code := { maxStack := 1, maxLocals := 1, code := prog_21_method_7_code, exceptionTable := #[], attributes := #[] }
def k2m3 : Method := { name := "size", desc := "()I", sig := { parameters := [], returnType := some .int }, accessFlags := 0, code := some k2c3 }
/-- com/example/fenpei/fenpei/IntList -/
def k2 : Class := { plain "com/example/fenpei/fenpei/IntList" (some 0) with
  accessFlags := 32
  interfaces := #[]
  cf := some (fileOf pool2 8 #[] #[{ accessFlags := 0, nameIndex := 5, descriptorIndex := 6, attributes := #[] }, { accessFlags := 0, nameIndex := 43, descriptorIndex := 44, attributes := #[] }, { accessFlags := 0, nameIndex := 50, descriptorIndex := 49, attributes := #[] }, { accessFlags := 0, nameIndex := 15, descriptorIndex := 49, attributes := #[] }] 32 2 #[] #[{ accessFlags := 2, nameIndex := 11, descriptorIndex := 12, attributes := #[] }, { accessFlags := 2, nameIndex := 15, descriptorIndex := 16, attributes := #[] }])
  fields := #[{ name := "values", type := (.array .int), accessFlags := 2, slot := 0, constantValue := 0 }, { name := "size", type := .int, accessFlags := 2, slot := 1, constantValue := 0 }]
  methods := #[k2m0, k2m1, k2m2, k2m3]
  instanceTypes := #[(.array .int), .int]
  staticTypes := #[]
  resolved := Array.replicate 58 none
  statics := none }

def pool3 : Array CpInfo := pool [(2, .class_ 4), (1, u "java/lang/Object"), (0, u "<init>"), (0, u "()V"), (7, .class_ 16), (1, u "java/util/Arrays"), (57, .class_ 76), (1, u "java/util/Arrays$NaturalOrder"), (36, .class_ 115), (1, u "java/util/Arrays$LegacyMergeSort"), (1, u "Z"), (32, .methodref 151 152), (0, .class_ 153), (0, .nameAndType 154 155), (0, u "java/lang/System"), (0, u "arraycopy"), (0, u "(Ljava/lang/Object;ILjava/lang/Object;II)V"), (146, u "copyOf"), (1, .methodref 305 306), (0, .class_ 307), (0, .nameAndType 308 309), (0, u "java/lang/Math"), (0, u "min"), (0, u "(II)I"), (65, .class_ 376), (0, u "java/util/Arrays$ArrayList"), (68, u "$assertionsDisabled"), (269, u "MIN_ARRAY_SORT_GRAN"), (0, u "I"), (2, u "INSERTIONSORT_THRESHOLD"), (151, u "([II)[I"), (103, .class_ 976), (0, u "java/util/Arrays$ArrayItr")] 52

def k3m0 : Method := { name := "<init>", desc := "()V", sig := { parameters := [], returnType := none }, accessFlags := 2, code := none }
def k3c1 : Code := { maxStack := 6, maxLocals := 3, code := jdk_65_method_123_code, exceptionTable := #[], attributes := #[] }
def k3m1 : Method := { name := "copyOf", desc := "([II)[I", sig := { parameters := [(.array .int), .int], returnType := some (.array .int) }, accessFlags := 9, code := some k3c1 }
/-- java/util/Arrays -/
def k3 : Class := { plain "java/util/Arrays" (some 0) with
  accessFlags := 49
  interfaces := #[]
  cf := some (fileOf pool3 14 #[.nestMembers #[975, 375, 113, 74]] #[{ accessFlags := 2, nameIndex := 5, descriptorIndex := 6, attributes := #[] }, { accessFlags := 9, nameIndex := 302, descriptorIndex := 871, attributes := #[] }] 49 2 #[] #[{ accessFlags := 26, nameIndex := 715, descriptorIndex := 716, attributes := #[] }, { accessFlags := 26, nameIndex := 719, descriptorIndex := 716, attributes := #[] }, { accessFlags := 4120, nameIndex := 445, descriptorIndex := 117, attributes := #[] }])
  fields := #[{ name := "MIN_ARRAY_SORT_GRAN", type := .int, accessFlags := 26, slot := 0, constantValue := 0 }, { name := "INSERTIONSORT_THRESHOLD", type := .int, accessFlags := 26, slot := 1, constantValue := 0 }, { name := "$assertionsDisabled", type := .boolean, accessFlags := 4120, slot := 2, constantValue := 0 }]
  methods := #[k3m0, k3m1]
  instanceTypes := #[]
  staticTypes := #[.int, .int, .boolean]
  resolved := Array.replicate 1029 none
  statics := none }

def pool4 : Array CpInfo := pool [(1, .class_ 2), (0, u "java/lang/Math"), (1, .class_ 6), (1, u "java/lang/Object"), (0, u "<init>"), (0, u "()V"), (89, .class_ 100), (1, u "java/lang/Math$RandomNumberGeneratorHolder"), (71, u "negativeZeroFloatBits"), (0, u "J"), (2, u "negativeZeroDoubleBits"), (24, u "min"), (43, u "$assertionsDisabled"), (0, u "Z"), (88, u "(II)I"), (2, u "twoToTheDoubleScaleDown"), (0, u "D"), (4, u "twoToTheDoubleScaleUp"), (9, u "E"), (3, u "PI"), (2, u "TAU"), (2, u "DEGREES_TO_RADIANS"), (0, u "RADIANS_TO_DEGREES")] 94

def k4m0 : Method := { name := "<init>", desc := "()V", sig := { parameters := [], returnType := none }, accessFlags := 2, code := none }
def k4c1 : Code := { maxStack := 2, maxLocals := 2, code := jdk_29_method_69_code, exceptionTable := #[], attributes := #[] }
def k4m1 : Method := { name := "min", desc := "(II)I", sig := { parameters := [.int, .int], returnType := some .int }, accessFlags := 9, code := some k4c1 }
/-- java/lang/Math -/
def k4 : Class := { plain "java/lang/Math" (some 0) with
  accessFlags := 49
  interfaces := #[]
  cf := some (fileOf pool4 1 #[.nestMembers #[98]] #[{ accessFlags := 2, nameIndex := 7, descriptorIndex := 8, attributes := #[] }, { accessFlags := 9, nameIndex := 201, descriptorIndex := 335, attributes := #[] }] 49 4 #[] #[{ accessFlags := 25, nameIndex := 354, descriptorIndex := 339, attributes := #[] }, { accessFlags := 25, nameIndex := 358, descriptorIndex := 339, attributes := #[] }, { accessFlags := 25, nameIndex := 361, descriptorIndex := 339, attributes := #[] }, { accessFlags := 26, nameIndex := 364, descriptorIndex := 339, attributes := #[] }, { accessFlags := 26, nameIndex := 365, descriptorIndex := 339, attributes := #[] }, { accessFlags := 26, nameIndex := 172, descriptorIndex := 173, attributes := #[] }, { accessFlags := 26, nameIndex := 176, descriptorIndex := 173, attributes := #[] }, { accessFlags := 8, nameIndex := 344, descriptorIndex := 339, attributes := #[] }, { accessFlags := 8, nameIndex := 338, descriptorIndex := 339, attributes := #[] }, { accessFlags := 4120, nameIndex := 245, descriptorIndex := 246, attributes := #[] }])
  fields := #[{ name := "E", type := .double, accessFlags := 25, slot := 0, constantValue := 0 }, { name := "PI", type := .double, accessFlags := 25, slot := 1, constantValue := 0 }, { name := "TAU", type := .double, accessFlags := 25, slot := 2, constantValue := 0 }, { name := "DEGREES_TO_RADIANS", type := .double, accessFlags := 26, slot := 3, constantValue := 0 }, { name := "RADIANS_TO_DEGREES", type := .double, accessFlags := 26, slot := 4, constantValue := 0 }, { name := "negativeZeroFloatBits", type := .long, accessFlags := 26, slot := 5, constantValue := 0 }, { name := "negativeZeroDoubleBits", type := .long, accessFlags := 26, slot := 6, constantValue := 0 }, { name := "twoToTheDoubleScaleUp", type := .double, accessFlags := 8, slot := 7, constantValue := 0 }, { name := "twoToTheDoubleScaleDown", type := .double, accessFlags := 8, slot := 8, constantValue := 0 }, { name := "$assertionsDisabled", type := .boolean, accessFlags := 4120, slot := 9, constantValue := 0 }]
  methods := #[k4m0, k4m1]
  instanceTypes := #[]
  staticTypes := #[.double, .double, .double, .double, .double, .long, .long, .double, .double, .boolean]
  resolved := Array.replicate 460 none
  statics := none }

def pool5 : Array CpInfo := pool [(2, .class_ 4), (1, u "java/lang/Object"), (0, u "<init>"), (0, u "()V"), (1, .class_ 10), (1, u "java/lang/System"), (0, u "allowSecurityManager"), (0, u "I"), (16, u "cons"), (0, u "Ljava/io/Console;"), (77, .class_ 110), (1, u "java/lang/System$CallersHolder"), (43, u "initialErrStream"), (0, u "Ljava/io/PrintStream;"), (19, u "security"), (0, u "Ljava/lang/SecurityManager;"), (31, .class_ 209), (0, u "java/lang/System$1"), (7, u "props"), (0, u "Ljava/util/Properties;"), (2, u "lineSeparator"), (0, u "Ljava/lang/String;"), (96, .class_ 321), (1, u "java/lang/System$LoggerFinder"), (5, .class_ 328), (0, u "java/lang/System$Logger"), (67, u "err"), (2, u "out"), (91, u "notSupportedJnuEncoding"), (15, u "in"), (17, u "initialIn"), (0, u "Ljava/io/InputStream;"), (35, u "bootLayer"), (0, u "Ljava/lang/ModuleLayer;"), (99, .class_ 664), (0, u "java/lang/System$2"), (9, u "NEVER"), (2, u "MAYBE"), (49, u "arraycopy"), (0, u "(Ljava/lang/Object;ILjava/lang/Object;II)V"), (72, .class_ 802), (0, u "java/lang/System$Logger$Level")] 31

def k5m0 : Method := { name := "<init>", desc := "()V", sig := { parameters := [], returnType := none }, accessFlags := 2, code := none }
def k5m1 : Method := { name := "arraycopy", desc := "(Ljava/lang/Object;ILjava/lang/Object;II)V", sig := { parameters := [(.object "java/lang/Object"), .int, (.object "java/lang/Object"), .int, .int], returnType := none }, accessFlags := 265, code := none }
/-- java/lang/System -/
def k5 : Class := { plain "java/lang/System" (some 0) with
  accessFlags := 49
  interfaces := #[]
  cf := some (fileOf pool5 8 #[.nestMembers #[319, 327, 801, 108, 663, 208]] #[{ accessFlags := 2, nameIndex := 5, descriptorIndex := 6, attributes := #[] }, { accessFlags := 265, nameIndex := 727, descriptorIndex := 728, attributes := #[] }] 49 2 #[] #[{ accessFlags := 25, nameIndex := 507, descriptorIndex := 526, attributes := #[] }, { accessFlags := 25, nameIndex := 399, descriptorIndex := 155, attributes := #[] }, { accessFlags := 25, nameIndex := 396, descriptorIndex := 155, attributes := #[] }, { accessFlags := 10, nameIndex := 525, descriptorIndex := 526, attributes := #[] }, { accessFlags := 26, nameIndex := 674, descriptorIndex := 12, attributes := #[] }, { accessFlags := 26, nameIndex := 677, descriptorIndex := 12, attributes := #[] }, { accessFlags := 10, nameIndex := 11, descriptorIndex := 12, attributes := #[] }, { accessFlags := 74, nameIndex := 175, descriptorIndex := 176, attributes := #[] }, { accessFlags := 10, nameIndex := 491, descriptorIndex := 222, attributes := #[] }, { accessFlags := 74, nameIndex := 29, descriptorIndex := 30, attributes := #[] }, { accessFlags := 74, nameIndex := 154, descriptorIndex := 155, attributes := #[] }, { accessFlags := 10, nameIndex := 217, descriptorIndex := 218, attributes := #[] }, { accessFlags := 10, nameIndex := 221, descriptorIndex := 222, attributes := #[] }, { accessFlags := 8, nameIndex := 562, descriptorIndex := 563, attributes := #[] }])
  fields := #[{ name := "in", type := (.object "java/io/InputStream"), accessFlags := 25, slot := 0, constantValue := 0 }, { name := "out", type := (.object "java/io/PrintStream"), accessFlags := 25, slot := 1, constantValue := 0 }, { name := "err", type := (.object "java/io/PrintStream"), accessFlags := 25, slot := 2, constantValue := 0 }, { name := "initialIn", type := (.object "java/io/InputStream"), accessFlags := 10, slot := 3, constantValue := 0 }, { name := "NEVER", type := .int, accessFlags := 26, slot := 4, constantValue := 0 }, { name := "MAYBE", type := .int, accessFlags := 26, slot := 5, constantValue := 0 }, { name := "allowSecurityManager", type := .int, accessFlags := 10, slot := 6, constantValue := 0 }, { name := "security", type := (.object "java/lang/SecurityManager"), accessFlags := 74, slot := 7, constantValue := 0 }, { name := "notSupportedJnuEncoding", type := (.object "java/lang/String"), accessFlags := 10, slot := 8, constantValue := 0 }, { name := "cons", type := (.object "java/io/Console"), accessFlags := 74, slot := 9, constantValue := 0 }, { name := "initialErrStream", type := (.object "java/io/PrintStream"), accessFlags := 74, slot := 10, constantValue := 0 }, { name := "props", type := (.object "java/util/Properties"), accessFlags := 10, slot := 11, constantValue := 0 }, { name := "lineSeparator", type := (.object "java/lang/String"), accessFlags := 10, slot := 12, constantValue := 0 }, { name := "bootLayer", type := (.object "java/lang/ModuleLayer"), accessFlags := 8, slot := 13, constantValue := 0 }]
  methods := #[k5m0, k5m1]
  instanceTypes := #[]
  staticTypes := #[(.object "java/io/InputStream"), (.object "java/io/PrintStream"), (.object "java/io/PrintStream"), (.object "java/io/InputStream"), .int, .int, .int, (.object "java/lang/SecurityManager"), (.object "java/lang/String"), (.object "java/io/Console"), (.object "java/io/PrintStream"), (.object "java/util/Properties"), (.object "java/lang/String"), (.object "java/lang/ModuleLayer")]
  resolved := Array.replicate 834 none
  statics := none }

def pool6 : Array CpInfo := pool [(1, u "java/lang/Cloneable"), (0, .class_ 1), (0, u "java/lang/Object"), (0, .class_ 3)] 3

/-- java/lang/Cloneable -/
def k6 : Class := { plain "java/lang/Cloneable" (some 0) with
  accessFlags := 1537
  interfaces := #[]
  cf := some (fileOf pool6 2 #[] #[] 1537 4 #[] #[])
  fields := #[]
  methods := #[]
  instanceTypes := #[]
  staticTypes := #[]
  resolved := Array.replicate 8 none
  statics := none }

def pool7 : Array CpInfo := pool [(1, u "java/io/Serializable"), (0, .class_ 1), (0, u "java/lang/Object"), (0, .class_ 3)] 3

/-- java/io/Serializable -/
def k7 : Class := { plain "java/io/Serializable" (some 0) with
  accessFlags := 1537
  interfaces := #[]
  cf := some (fileOf pool7 2 #[] #[] 1537 4 #[] #[])
  fields := #[]
  methods := #[]
  instanceTypes := #[]
  staticTypes := #[]
  resolved := Array.replicate 8 none
  statics := none }

/-- the primitive byte -/
def k8 : Class := { plain "byte" none with kind := .primitive 'B', accessFlags := 0x411 }
/-- [B -/
def k9 : Class := { plain "[B" (some 0) with kind := .array 8 .byte, interfaces := #[6, 7], accessFlags := 1041 }

/-- the primitive int -/
def k10 : Class := { plain "int" none with kind := .primitive 'I', accessFlags := 0x411 }
/-- [I -/
def k11 : Class := { plain "[I" (some 0) with kind := .array 10 .int, interfaces := #[6, 7], accessFlags := 1041 }

def heap : Heap := #[]
def classes : Array Class := #[k0, k1, k2, k3, k4, k5, k6, k7, k8, k9, k10, k11]
def interned : List (Array UInt16 × Addr) := []
def slotsUsed : Nat := 0
def theMethod : MethodId := ⟨1, 2⟩
def args0 : Array Value := #[.int 5, .int 5, .int 5, .int 5, .int 5, .int 5]
def aboutOver (below : List Frame) : State where
  vm := { classes := classes, interned := interned.toArray }
  heap := heap
  slotsUsed := slotsUsed
  threads := #[{ frames := .invoking theMethod args0 :: below }]
def below0 : List Frame := [.native { method := ⟨0, 0⟩, args := #[] }]
def about1 : State := aboutOver below0
def p0 : Program := .bare "" "" ""
def e0 : Env := launch0.env 0 0 0
theorem w_frames : about1.frames = Frame.invoking theMethod args0 :: below0 := rfl
set_option maxRecDepth 65536 in
theorem w_args : argsFit about1.vm theMethod args0 = true := by decide +kernel
set_option maxRecDepth 65536 in
theorem w_heap : heapFits about1 = true := by decide +kernel
set_option maxRecDepth 65536 in
theorem w_runnable : about1.curStatus? = some .runnable := by decide +kernel
set_option maxRecDepth 65536 in
theorem w_alone : about1.alone = true := by decide +kernel
set_option maxRecDepth 65536 in
theorem w_named : about1.methodNamed? x = some theMethod := by decide +kernel
set_option maxRecDepth 65536 in
theorem w_hears : about1.hears theMethod below0 = true := by decide +kernel
set_option maxRecDepth 65536 in
theorem w_ripe : about1.ripe theMethod args0 below0 = true := by decide +kernel
theorem w_running : about1.status = .running := rfl
set_option maxRecDepth 65536 in
theorem w_room : about1.hasRoom e0.platform room_1 = true :=
  launch0.hasRoom_least _ room_1 (by decide +kernel) (by decide +kernel) (by decide +kernel) (by decide +kernel) (by decide +kernel) (by decide +kernel)
theorem allAtoms_all (ts : List Jvm.Cond) (a : Array Jvm.Value) (st : Jvm.State) : (allAtoms ts).before a st = ts.all (fun c => c.before a st) := by
  induction ts with
  | nil => rfl
  | cons c t ih =>
    show (Jvm.Cond.and c (allAtoms t)).before a st = _
    rw [Jvm.Cond.before_and, ih, List.all_cons]
def words1 : List Jvm.Cond := Jvm.Cond.code x code maxLocals ret :: tables_1
/-- a 'code' word, met by the world's own term for the bytes: nothing is compared byte by byte -/
theorem code_word {y : MethodName} {bytes : ByteArray} {mx : Nat} {rt : Option FieldType} {a : Array Value} {s : State} {m : MethodId} {meth : Method} {c : Code} (h1 : s.methodNamed? y = some m) (h2 : s.vm.method? m = some meth) (h3 : meth.code = some c) (h4 : c.code = bytes)
    (h5 : (c.maxLocals == mx && c.exceptionTable.isEmpty && decide (c.maxStack ≤ mostOperands) && decide (meth.sig.returnType = rt) && !meth.locks && decide (parseMethodDescriptor y.desc = some meth.sig)) = true) : (Jvm.Cond.code y bytes mx rt).before a s = true := by
  simp only [Bool.and_eq_true, beq_iff_eq, Bool.not_eq_true', decide_eq_true_eq] at h5
  obtain ⟨⟨⟨⟨⟨g1, g2⟩, g3⟩, g4⟩, g5⟩, g6⟩ := h5
  simp [Cond.before, Cond.holds, Cond.value, h1, h2, h3, h4, g1, g2, g3, g4, g5, g6]
def isCode : Jvm.Cond → Bool
  | .code _ _ _ _ => true
  | _ => false
theorem all_split {L : List Jvm.Cond} {P : Jvm.Cond → Bool} (h1 : L.all (fun c => isCode c || P c) = true) (h2 : ∀ c ∈ L.filter isCode, P c = true) : L.all P = true := by
  refine List.all_eq_true.mpr fun c hc => ?_
  have h := List.all_eq_true.mp h1 c hc
  rcases Bool.eq_false_or_eq_true (isCode c) with hi | hi
  · exact h2 c (List.mem_filter.mpr ⟨hc, hi⟩)
  · simpa [hi] using h
set_option maxRecDepth 65536 in
theorem w_c0 : (Jvm.Cond.code x code maxLocals ret).before args0 about1 = true := code_word (m := ⟨1, 2⟩) (meth := k1m2) (c := k1c2) (by decide +kernel) rfl rfl rfl (by decide +kernel)
set_option maxRecDepth 65536 in
theorem w_c1 : (Jvm.Cond.code ({ cls := "com/example/fenpei/fenpei/IntList", name := "<init>", desc := "()V" } : Jvm.MethodName) prog_21_method_1_code (1 : Nat) (Option.none : Option Jvm.ClassFile.FieldType)).before args0 about1 = true := code_word (m := ⟨2, 0⟩) (meth := k2m0) (c := k2c0) (by decide +kernel) rfl rfl rfl (by decide +kernel)
set_option maxRecDepth 65536 in
theorem w_c2 : (Jvm.Cond.code ({ cls := "java/lang/Object", name := "<init>", desc := "()V" } : Jvm.MethodName) object_method_1_code (1 : Nat) (Option.none : Option Jvm.ClassFile.FieldType)).before args0 about1 = true := code_word (m := ⟨0, 0⟩) (meth := k0m0) (c := k0c0) (by decide +kernel) rfl rfl rfl (by decide +kernel)
set_option maxRecDepth 65536 in
theorem w_c3 : (Jvm.Cond.code ({ cls := "com/example/fenpei/fenpei/IntList", name := "add", desc := "(I)V" } : Jvm.MethodName) prog_21_method_2_code (2 : Nat) (Option.none : Option Jvm.ClassFile.FieldType)).before args0 about1 = true := code_word (m := ⟨2, 1⟩) (meth := k2m1) (c := k2c1) (by decide +kernel) rfl rfl rfl (by decide +kernel)
set_option maxRecDepth 65536 in
theorem w_c4 : (Jvm.Cond.code ({ cls := "com/example/fenpei/fenpei/IntList", name := "removeLast", desc := "()I" } : Jvm.MethodName) prog_21_method_5_code (1 : Nat) (Option.some Jvm.ClassFile.FieldType.int)).before args0 about1 = true := code_word (m := ⟨2, 2⟩) (meth := k2m2) (c := k2c2) (by decide +kernel) rfl rfl rfl (by decide +kernel)
set_option maxRecDepth 65536 in
theorem w_c5 : (Jvm.Cond.code ({ cls := "com/example/fenpei/fenpei/IntListRemoveLastPinLaw", name := "pick", desc := "(IIIIII)I" } : Jvm.MethodName) method_2_code (6 : Nat) (Option.some Jvm.ClassFile.FieldType.int)).before args0 about1 = true := code_word (m := ⟨1, 1⟩) (meth := k1m1) (c := k1c1) (by decide +kernel) rfl rfl rfl (by decide +kernel)
set_option maxRecDepth 65536 in
theorem w_c6 : (Jvm.Cond.code ({ cls := "com/example/fenpei/fenpei/IntList", name := "size", desc := "()I" } : Jvm.MethodName) prog_21_method_7_code (1 : Nat) (Option.some Jvm.ClassFile.FieldType.int)).before args0 about1 = true := code_word (m := ⟨2, 3⟩) (meth := k2m3) (c := k2c3) (by decide +kernel) rfl rfl rfl (by decide +kernel)
set_option maxRecDepth 65536 in
theorem w_c7 : (Jvm.Cond.code ({ cls := "java/util/Arrays", name := "copyOf", desc := "([II)[I" } : Jvm.MethodName) jdk_65_method_123_code (3 : Nat) (Option.some (Jvm.ClassFile.FieldType.array Jvm.ClassFile.FieldType.int))).before args0 about1 = true := code_word (m := ⟨3, 1⟩) (meth := k3m1) (c := k3c1) (by decide +kernel) rfl rfl rfl (by decide +kernel)
set_option maxRecDepth 65536 in
theorem w_c8 : (Jvm.Cond.code ({ cls := "java/lang/Math", name := "min", desc := "(II)I" } : Jvm.MethodName) jdk_29_method_69_code (2 : Nat) (Option.some Jvm.ClassFile.FieldType.int)).before args0 about1 = true := code_word (m := ⟨4, 1⟩) (meth := k4m1) (c := k4c1) (by decide +kernel) rfl rfl rfl (by decide +kernel)
def codes1 : List Jvm.Cond := [Jvm.Cond.code x code maxLocals ret, Jvm.Cond.code ({ cls := "com/example/fenpei/fenpei/IntList", name := "<init>", desc := "()V" } : Jvm.MethodName) prog_21_method_1_code (1 : Nat) (Option.none : Option Jvm.ClassFile.FieldType), Jvm.Cond.code ({ cls := "java/lang/Object", name := "<init>", desc := "()V" } : Jvm.MethodName) object_method_1_code (1 : Nat) (Option.none : Option Jvm.ClassFile.FieldType), Jvm.Cond.code ({ cls := "com/example/fenpei/fenpei/IntList", name := "add", desc := "(I)V" } : Jvm.MethodName) prog_21_method_2_code (2 : Nat) (Option.none : Option Jvm.ClassFile.FieldType), Jvm.Cond.code ({ cls := "com/example/fenpei/fenpei/IntList", name := "removeLast", desc := "()I" } : Jvm.MethodName) prog_21_method_5_code (1 : Nat) (Option.some Jvm.ClassFile.FieldType.int), Jvm.Cond.code ({ cls := "com/example/fenpei/fenpei/IntListRemoveLastPinLaw", name := "pick", desc := "(IIIIII)I" } : Jvm.MethodName) method_2_code (6 : Nat) (Option.some Jvm.ClassFile.FieldType.int), Jvm.Cond.code ({ cls := "com/example/fenpei/fenpei/IntList", name := "size", desc := "()I" } : Jvm.MethodName) prog_21_method_7_code (1 : Nat) (Option.some Jvm.ClassFile.FieldType.int), Jvm.Cond.code ({ cls := "java/util/Arrays", name := "copyOf", desc := "([II)[I" } : Jvm.MethodName) jdk_65_method_123_code (3 : Nat) (Option.some (Jvm.ClassFile.FieldType.array Jvm.ClassFile.FieldType.int)), Jvm.Cond.code ({ cls := "java/lang/Math", name := "min", desc := "(II)I" } : Jvm.MethodName) jdk_29_method_69_code (2 : Nat) (Option.some Jvm.ClassFile.FieldType.int)]
set_option maxRecDepth 65536 in
theorem codes_eq : words1.filter isCode = codes1 := rfl
theorem w_codes : ∀ c ∈ words1.filter isCode, c.before args0 about1 = true := by
  rw [codes_eq]
  intro c hc
  simp only [codes1, List.mem_cons, List.not_mem_nil, or_false] at hc
  rcases hc with rfl | rfl | rfl | rfl | rfl | rfl | rfl | rfl | rfl
  · exact w_c0
  · exact w_c1
  · exact w_c2
  · exact w_c3
  · exact w_c4
  · exact w_c5
  · exact w_c6
  · exact w_c7
  · exact w_c8
set_option maxRecDepth 65536 in
theorem w_t1 : (words1.take 24).all (fun c => isCode c || c.before args0 about1) = true := by decide +kernel
set_option maxRecDepth 65536 in
theorem w_t2 : (words1.drop 24).all (fun c => isCode c || c.before args0 about1) = true := by decide +kernel
theorem w_tables : (allAtoms (Jvm.Cond.code x code maxLocals ret :: tables_1)).before args0 about1 = true := by
  rw [allAtoms_all]
  show words1.all (fun c => c.before args0 about1) = true
  refine all_split ?_ w_codes
  rw [← List.take_append_drop 24 words1, List.all_append, w_t1, w_t2]
  rfl
set_option maxRecDepth 65536 in
theorem w_case : (Jvm.Cond.and given_1 narrow_1).before args0 about1 = true := by decide +kernel
theorem w_applies : (headSpec (Jvm.Cond.code x code maxLocals ret :: tables_1) room_1).applies x e0.platform about1 = true :=
  (Spec.applies_iff w_frames).mpr ⟨w_running, w_runnable, w_alone, w_named, w_hears, w_ripe, w_room, w_tables⟩
theorem atStart : AtStart classFile x code maxLocals ret World_1 tables_1 room_1 Calls_1 rest_1 Pre_1 launch0 p0 e0 about1 theMethod args0 below0 :=
  ⟨lists_1, trivial, launch0.admits_env _ _ _, launch0.least_env, fairChoices_fair.cas, fairChoices_fair.clock, w_frames, w_args, w_heap, w_applies, trivial, trivial, w_case⟩
end start1
theorem witness_1 : WitnessClaimed_1 := ⟨start1.p0, start1.e0, start1.about1, start1.theMethod, start1.args0, start1.below0, start1.atStart⟩
end Jvm.Pilot.@@N@@
