import JvmDerived
import JvmDerived.Pilot.@@N@@Statement
import JvmDerived.Pilot.@@N@@Code
set_option linter.unusedVariables false
set_option linter.unusedSimpArgs false
namespace Jvm.OwnW
open Sem ClassFile Op Lib Jvm.Free Jvm.Stand Jvm.LawKit Jvm.RoadKit Jvm.Free.XT
/-! ## a walk's fixed data, and what is asked of the rest of it -/
abbrev Cx : Type := Program × Launch × Env × Room × State × MethodId × Array Value × List Frame × Method × Code
abbrev Cx.p (x : Cx) : Program := x.1
abbrev Cx.l (x : Cx) : Launch := x.2.1
abbrev Cx.e (x : Cx) : Env := x.2.2.1
abbrev Cx.R (x : Cx) : Room := x.2.2.2.1
abbrev Cx.s (x : Cx) : State := x.2.2.2.2.1
abbrev Cx.m (x : Cx) : MethodId := x.2.2.2.2.2.1
abbrev Cx.args (x : Cx) : Array Value := x.2.2.2.2.2.2.1
abbrev Cx.below (x : Cx) : List Frame := x.2.2.2.2.2.2.2.1
abbrev Cx.meth (x : Cx) : Method := x.2.2.2.2.2.2.2.2.1
abbrev Cx.c (x : Cx) : Code := x.2.2.2.2.2.2.2.2.2
abbrev Sd (x : Cx) (T : State) (locs : List Loc) (k n : Nat) : Prop := Stand x.p x.l x.e x.R x.s x.m x.args x.below x.meth x.c T locs k n
/-- what is known of a walk of the method nm (of the class own) over the tables of Z -/
def Ok (x : Cx) (Z : State) (own nm : String) (bytes : ByteArray) (ml : Nat) (rt : Option FieldType) (R : Room) : Prop :=
  x.p.tables.exec = Jvm.exec ∧ x.c.code = bytes ∧ x.c.maxLocals = ml ∧ x.s.vm.findClass own = some x.m.cls ∧ x.meth.name = nm ∧ Z.Warmed39 x.s.vm ∧ x.meth.sig.returnType = rt ∧ x.meth.locks = false ∧ x.R = R
abbrev Post : Type := Option Value → Heap → Prop
def Done (x : Cx) (n0 : Nat) (Q : Post) (U : State) : Prop :=
  ∃ s₂ o, Steps x.p.tables x.e x.below U s₂ ∧ s₂.status = .running ∧ Ended s₂ x.below o ∧ ∃ v L, o = .returned v ∧ (Q v s₂.heap ∧ Fr n0 L) ∧ FrameEnd x.s o s₂ L x.R.cells x.R.slots
/-- from here (heap h; k cells and n slots made so far; the frame) the walk comes to its end, and Q holds of it -/
def WP (x : Cx) (n0 : Nat) (Q : Post) (h : Heap) (k n : Nat) (pc : Nat) (L : Array Slot) (S : List Value) : Prop :=
  ∀ T locs, Sd x T locs k n → T.heap = h → Fr n0 locs → Done x n0 Q (T.setTop (mkF x.m pc L S))
/-- a method's contract at one heap and one list of arguments -/
def Con (l : Launch) (Z : State) (y : MethodName) (bytes : ByteArray) (maxL : Nat) (ret : Option FieldType) (rm : Room) (as : Array Value) (h : Heap) (n0 : Nat) (Q : Post) (ws : List Jvm.Cond) : Prop :=
  MetFree l y (head1 (Jvm.Cond.code y bytes maxL ret :: ws) rm) (fun a U => a = as ∧ Z.Warmed39 U.vm ∧ U.heap = h) (fun _ _ _ _ _ => True) (fun _ U o U' => ∃ v L, o = .returned v ∧ (Q v U'.heap ∧ Fr n0 L) ∧ FrameEnd U o U' L rm.cells rm.slots)
theorem wd {ts : List Jvm.Cond} {a0 : Array Value} {Z : State} (hw : ∀ d ∈ ts, d.before a0 Z = true) (k : Nat) {d : Jvm.Cond} (h : ts[k]? = some d) : d.before a0 Z = true := hw d (List.mem_of_getElem? h)
theorem ne_new {h : Heap} {a b : Addr} (hb : b < h.size) (e : a = h.size) : b ≠ a := by rw [e]; exact Nat.ne_of_lt hb
theorem Fld_c {Z : State} {h : Heap} {a : Addr} {O n d : String} {v w : Value} (F : Fld Z h a O n d v) (e : v = w) : Fld Z h a O n d w := e ▸ F
theorem Sta_keep0 {Z : State} {h h' : Heap} {C n d : String} {v : Value} (F : Sta Z h C n d v) (K : Keep h h' []) : Sta Z h' C n d v := by
  obtain ⟨cf, i, k, f, st, cell, h1, h2, h3, h4, h5, r⟩ := F
  exact ⟨cf, i, k, f, st, cell, h1, h2, h3, h4, K.2.1 _ _ h5 nin0, r⟩
section Rules
variable {x : Cx} {Z : State} {own nm : String} {bytes : ByteArray} {ml : Nat} {rt : Option FieldType} {R : Room} {n0 : Nat} {Q : Post} {h : Heap} {k n : Nat} {pc pc' : Nat} {L L' : Array Slot} {S S' rest : List Value} {a0 : Array Value} {a : Addr} {v : Value}
theorem con_of_wp {l : Launch} {y : MethodName} {as : Array Value} {L0 : Array Slot} {ws : List Jvm.Cond} (pn : plainFor y = true) (ef : ∀ m, entryFrame m as ml = mkF m 0 L0 [])
    (H : ∀ x : Cx, x.l = l → Ok x Z y.cls y.name bytes ml rt R → WP x n0 Q h 0 0 0 L0 []) : Con l Z y bytes ml rt R as h n0 Q ws := by
  refine MetFree.of_bodySF pn hisR ?_
  intro p e s m args below meth c s₁ Bd hml0 hP hK
  obtain ⟨rfl, hZ, hh⟩ := hP
  have X0 : Stand p l e R s m args below meth c s₁ [] 0 0 := Stand.of_body Bd
  have e0 : s₁.heap = h := by rw [← hh, Bd.state]; rfl
  have ok : Ok (p, l, e, R, s, m, args, below, meth, c) Z y.cls y.name bytes ml rt R := ⟨Bd.exec, Bd.bytes, hml0, findClass_of_methodNamed Bd.named, (name_of_methodNamed Bd.named Bd.method).1, hZ, Bd.returns, Bd.notSynchronized, rfl⟩
  obtain ⟨s₂, o, h1, h2, h3, h4⟩ := H (p, l, e, R, s, m, args, below, meth, c) rfl ok s₁ [] X0 e0 (Fr.nil n0)
  exact ⟨s₂, o, castTop (ef m) h1, h2, h3, h4⟩
theorem wp_more {k' n' : Nat} (hk : k ≤ k') (hn : n ≤ n') (w : WP x n0 Q h k' n' pc L S) : WP x n0 Q h k n pc L S := fun T locs X e N => w T locs (X.more hk hn) e N
theorem wp_steps (st : ∀ T locs target, Sd x T locs k n → T.heap = h → Steps x.p.tables x.e x.below (T.setTop (mkF x.m pc' L' S')) target → Steps x.p.tables x.e x.below (T.setTop (mkF x.m pc L S)) target) (w : WP x n0 Q h k n pc' L' S') : WP x n0 Q h k n pc L S := fun T locs X e N => by
  obtain ⟨s₂, o, h1, r⟩ := w T locs X e N
  exact ⟨s₂, o, st T locs _ X e h1, r⟩
/-! ## returns -/
theorem wp_done {v' : Option Value} (ok : Ok x Z own nm bytes ml rt R) (hk : k ≤ R.cells) (hn : n ≤ R.slots) (hv : rt = none → v' = none) (hq : Q v' h)
    (st : ∀ T locs fs, Sd x T locs k n → (∀ (f : JFrame) (acts : List Action), f.method = x.m → f.locked = none → f.entered = [] → (doReturn x.e (T.setTop f) acts v').1 = T.setFrames fs) → Steps x.p.tables x.e x.below (T.setTop (mkF x.m pc L S)) (T.setFrames fs)) : WP x n0 Q h k n pc L S := fun T locs X e N => by
  obtain ⟨hx, hby, hml, hown, hnm, hZ, hrt, hlk, hR⟩ := ok
  have hlocks : x.meth.locks = false := hlk
  obtain ⟨fs, hr, hrun, hended, hW, hsame⟩ := X.leave (v := v') (fun q => hv (hrt.symm.trans q)) hlocks
  refine ⟨_, _, st T locs fs X hr, hrun, hended, _, locs, rfl, ⟨?_, N⟩, ⟨_, rfl⟩, hW, hsame.mono (by rw [hR]; exact hk) (by rw [hR]; exact hn)⟩
  show Q v' T.heap
  rw [e]; exact hq
theorem wp_retV (ok : Ok x Z own nm bytes ml none R) (hd : decode bytes pc = .ok (.return_, 1)) (hk : k ≤ R.cells) (hn : n ≤ R.slots) (hq : Q none h) : WP x n0 Q h k n pc L [] :=
  wp_done ok hk hn (fun _ => rfl) hq fun T locs fs X hr => X.returnOut ok.1 ok.2.2.2.2.2.2.1 (hb ok.2.1 hd) hr
theorem wp_retZ {z : Int32} {t : FieldType} (ok : Ok x Z own nm bytes ml (some t) R) (ht : t = .boolean ∨ t = .byte ∨ t = .char ∨ t = .short) (hd : decode bytes pc = .ok (.ireturn, 1)) (hk : k ≤ R.cells) (hn : n ≤ R.slots) (hq : Q (some (.int (nar t z))) h) : WP x n0 Q h k n pc L (.int z :: rest) :=
  wp_done ok hk hn (fun q => nomatch q) hq fun T locs fs X hr => retN X ok.1 ok.2.2.2.2.2.2.1 ht (hb ok.2.1 hd) hr
theorem wp_retI {z : Int32} (ok : Ok x Z own nm bytes ml (some .int) R) (hd : decode bytes pc = .ok (.ireturn, 1)) (hk : k ≤ R.cells) (hn : n ≤ R.slots) (hq : Q (some (.int z)) h) : WP x n0 Q h k n pc L (.int z :: rest) :=
  wp_done ok hk hn (fun q => nomatch q) hq fun T locs fs X hr => retOut X ok.1 ok.2.2.2.2.2.2.1 (w := .int z) rfl (Or.inl ⟨rfl, Or.inl rfl, z, rfl⟩) (hb ok.2.1 hd) hr
theorem wp_retJ {z : Int64} (ok : Ok x Z own nm bytes ml (some .long) R) (hd : decode bytes pc = .ok (.lreturn, 1)) (hk : k ≤ R.cells) (hn : n ≤ R.slots) (hq : Q (some (.long z)) h) : WP x n0 Q h k n pc L (.long z :: rest) :=
  wp_done ok hk hn (fun q => nomatch q) hq fun T locs fs X hr => retOut X ok.1 ok.2.2.2.2.2.2.1 (w := .long z) rfl (Or.inr (Or.inl ⟨rfl, rfl, z, rfl⟩)) (hb ok.2.1 hd) hr
theorem wp_retA {w : Value} {t : FieldType} (ok : Ok x Z own nm bytes ml (some t) R) (ht : t.isReference = true) (hw : w.isRef = true) (hd : decode bytes pc = .ok (.areturn, 1)) (hk : k ≤ R.cells) (hn : n ≤ R.slots) (hq : Q (some w) h) : WP x n0 Q h k n pc L [w] :=
  wp_done ok hk hn (fun q => nomatch q) hq fun T locs fs X hr => X.areturnOut ok.1 hw ok.2.2.2.2.2.2.1 ht (hb ok.2.1 hd) hr
/-! ## the heap -/
theorem wp_getF {O nf d : String} {index : Nat} (ok : Ok x Z own nm bytes ml rt R) (w : (Jvm.Cond.fieldLink own index O nf d).before a0 Z = true) (F : Fld Z h a O nf d v) (hd : decode bytes pc = .ok (.getfield index, 3)) (hw : WP x n0 Q h k n (pc + 3) L (v :: rest)) : WP x n0 Q h k n pc L (.ref a :: rest) := fun T locs X e N => by
  obtain ⟨T', X', e', st⟩ := getF X ok.1 ok.2.2.2.2.2.1 ok.2.2.2.1 (host := "") (Or.inl w) Via.refl e F (g := mkF x.m pc L (.ref a :: rest)) rfl rfl (hb ok.2.1 hd)
  obtain ⟨s₂, o, h1, r⟩ := hw T' locs X' e' N
  exact ⟨s₂, o, st _ h1, r⟩
theorem wp_getS {O nf d : String} {index : Nat} (ok : Ok x Z own nm bytes ml rt R) (w : (Jvm.Cond.fieldLink own index O nf d).before a0 Z = true) (F : Sta Z h O nf d v) (hd : decode bytes pc = .ok (.getstatic index, 3)) (hw : WP x n0 Q h k n (pc + 3) L (v :: S)) : WP x n0 Q h k n pc L S := fun T locs X e N => by
  obtain ⟨T', X', e', st⟩ := getS (host := "") X ok.1 ok.2.2.2.2.2.1 ok.2.2.2.1 w Via.refl e F (g := mkF x.m pc L S) rfl (hb ok.2.1 hd)
  obtain ⟨s₂, o, h1, r⟩ := hw T' locs X' e' N
  exact ⟨s₂, o, st _ h1, r⟩
theorem wp_putF {O nf d C : String} {index kk : Nat} {ty : FieldType} {old : Value} (ok : Ok x Z own nm bytes ml rt R) (w : (Jvm.Cond.fieldLink own index O nf d).before a0 Z = true) (F : Fld Z h a O nf d old) (E : Exa Z h a C)
    (Ly : (Jvm.Cond.lays C O nf d).before a0 Z = true ∨ ((Jvm.Cond.laysFinal C O nf d).before a0 Z = true ∧ own = O ∧ nm = "<init>")) (wi : (Jvm.Cond.instantiable C kk).before a0 Z = true) (hty : parseFieldDescriptor d = some ty) (hnw : narrow ty v = v) (hf : fits ty v = true) (hd : decode bytes pc = .ok (.putfield index, 3)) (ha : n0 ≤ a)
    (hw : ∀ h', Wr h h' a (Jvm.RoadKit.slotOf Z O nf d) v → WP x n0 Q h' k n (pc + 3) L rest) : WP x n0 Q h k n pc L (v :: .ref a :: rest) := fun T locs X e N => by
  obtain ⟨T', h', X', e', W, st⟩ := putF X ok.1 ok.2.2.2.2.2.1 ok.2.2.2.1 (host := "") (Or.inl w) Via.refl e F E (Ly.imp id fun q => ⟨q.1, q.2.1, ok.2.2.2.2.1.trans q.2.2⟩) wi hty hnw hf (g := mkF x.m pc L (v :: .ref a :: rest)) rfl rfl (hb ok.2.1 hd)
  obtain ⟨s₂, o, h1, r⟩ := hw h' W T' _ X' e' (Fr.snoc X' N ha)
  exact ⟨s₂, o, st _ h1, r⟩
theorem wp_new {C : String} {index sz : Nat} (ok : Ok x Z own nm bytes ml rt R) (w : (Jvm.Cond.classLink own index C).before a0 Z = true) (wi : (Jvm.Cond.instantiable C sz).before a0 Z = true) (wz : (Jvm.Cond.initialized C).before a0 Z = true) (hd : decode bytes pc = .ok (.new index, 3)) (hk : k + 1 ≤ R.cells) (hn : n + sz ≤ R.slots)
    (hw : ∀ h' a, a = h.size → Ext h h' → Exa Z h' a C → (∀ {O nf d : String} {ty : FieldType}, Laid Z a0 C O nf d → parseFieldDescriptor d = some ty → Fld Z h' a O nf d (defaultValue ty)) → WP x n0 Q h' (k + 1) (n + sz) (pc + 3) L (.ref a :: S)) : WP x n0 Q h k n pc L S := fun T locs X e N => by
  obtain ⟨T', h', X', e', E, A, D, -, st⟩ := newO X ok.1 ok.2.2.2.2.2.1 ok.2.2.2.1 w wi wz e (g := mkF x.m pc L S) rfl (hb ok.2.1 hd) (by rw [ok.2.2.2.2.2.2.2.2]; exact hk) (by rw [ok.2.2.2.2.2.2.2.2]; exact hn)
  obtain ⟨s₂, o, h1, r⟩ := hw h' h.size rfl E A D T' _ X' e' N
  exact ⟨s₂, o, st _ h1, r⟩
theorem wp_initO {index : Nat} (ok : Ok x Z own nm bytes ml rt R) (w1 : (Jvm.Cond.methodLink own index Lib.objectInit).before a0 Z = true) (w2 : (Jvm.Cond.instanceMethod Lib.objectInit).before a0 Z = true) (w3 : (Jvm.Cond.code Lib.objectInit ⟨#[0xb1]⟩ 1 none).before a0 Z = true) (hL : L.size = ml)
    (hd : decode bytes pc = .ok (.invokespecial index, 3)) (hf : 1 ≤ R.frames) (hl : (rest.map fun v => v.category).sum + 12 ≤ R.locals) (hw : WP x n0 Q h k n (pc + 3) L rest) : WP x n0 Q h k n pc L (.ref a :: rest) := fun T locs X e N => by
  obtain ⟨T', X', e', st⟩ := initO X ok.1 ok.2.2.2.2.2.1 ok.2.2.2.1 w1 w2 w3 e (g := mkF x.m pc L (.ref a :: rest)) rfl (by show L.size = _; rw [ok.2.2.1]; exact hL) rfl (hb ok.2.1 hd) (by rw [ok.2.2.2.2.2.2.2.2]; exact hf) (W := (rest.map fun v => v.category).sum) (by show 2 * 0 + _ ≤ _; omega) (by rw [ok.2.2.2.2.2.2.2.2]; exact hl)
  obtain ⟨s₂, o, h1, r⟩ := hw T' locs X' e' N
  exact ⟨s₂, o, st _ h1, r⟩
/-! ## calls by contract -/
theorem wp_static {y : MethodName} {cb : ByteArray} {cm : Nat} {cr : Option FieldType} {rm : Room} {index : Nat} {argsL : List Value} {Q' : Post} {ps : List FieldType} (ok : Ok x Z own nm bytes ml rt R) (w1 : (Jvm.Cond.methodLink own index y).before a0 Z = true) (w2 : (Jvm.Cond.static y).before a0 Z = true) (w3 : (Jvm.Cond.initialized y.cls).before a0 Z = true) (w4 : (Jvm.Cond.code y cb cm cr).before a0 Z = true)
    (hy : y.cls ≠ "java/lang/invoke/MethodHandle" ∧ y.cls ≠ "java/lang/invoke/VarHandle") (C : Con x.l Z y cb cm cr rm argsL.toArray h n0 Q' []) (pd : parseMethodDescriptor y.desc = some ⟨ps, cr⟩) (hlen : argsL.length = ps.length) (hst : S = argsL.reverse ++ rest) (hL : L.size = ml) (hd : decode bytes pc = .ok (.invokestatic index, 3))
    (hf : rm.frames + 1 ≤ R.frames) (hl : (rest.map fun v => v.category).sum + (cm + 11) + rm.locals ≤ R.locals) (hk : k + rm.cells ≤ R.cells) (hn : n + rm.slots ≤ R.slots)
    (hw : ∀ v h', Q' v h' → WP x n0 Q h' (k + rm.cells) (n + rm.slots) (pc + 3) L (v.toList ++ rest)) : WP x n0 Q h k n pc L S := fun T locs X e N => by
  have hZ := ok.2.2.2.2.2.1
  have hR := ok.2.2.2.2.2.2.2.2
  obtain ⟨v, _, ⟨T', L2, k2, n2⟩, -, X', ⟨Lc, hQ, l1, y1, z1⟩, st⟩ := Jvm.LawKit.callS X ok.1 (y := y) ok.2.2.2.1 (mvT hZ w1) (mvT hZ w2) (mvT hZ w3) (mvT hZ w4) hy (backOf (W := (rest.map fun v => v.category).sum) (Q := fun v h L => Q' v h ∧ Fr n0 L) C hZ w4 w3 (by rw [hR]; exact hf) (by rw [hR]; exact hl)) (g := mkF x.m pc L S) rfl (by show L.size = _; rw [ok.2.2.1]; exact hL) (argsL := argsL) (rest := rest) (lenOf pd hlen) hst (by show 2 * 0 + _ ≤ _; omega) (hb ok.2.1 hd) (fun _ _ => ⟨rfl, e, by rw [hR]; exact hk, by rw [hR]; exact hn⟩)
  dsimp only [Pt.U, Pt.locs, Pt.cells, Pt.slots] at X' l1 y1 z1 st hQ
  subst l1 y1 z1
  obtain ⟨s₂, o, h1, r⟩ := hw v _ hQ.1 T' _ X' rfl (Fr.app N hQ.2)
  exact ⟨s₂, o, st _ h1, r⟩
theorem wp_special {y : MethodName} {cb : ByteArray} {cm : Nat} {rm : Room} {index : Nat} {argsL : List Value} {Q' : Post} {ps : List FieldType} (ok : Ok x Z own nm bytes ml rt R) (hy1 : y.name = "<init>") (w1 : (Jvm.Cond.methodLink own index y).before a0 Z = true) (w2 : (Jvm.Cond.instanceMethod y).before a0 Z = true) (w3 : (Jvm.Cond.initialized y.cls).before a0 Z = true) (w4 : (Jvm.Cond.code y cb cm none).before a0 Z = true)
    (hy : y.cls ≠ "java/lang/invoke/MethodHandle" ∧ y.cls ≠ "java/lang/invoke/VarHandle") (C : Con x.l Z y cb cm none rm (Value.ref a :: argsL).toArray h n0 Q' []) (pd : parseMethodDescriptor y.desc = some ⟨ps, none⟩) (hlen : argsL.length = ps.length) (hst : S = argsL.reverse ++ .ref a :: rest) (hL : L.size = ml) (hd : decode bytes pc = .ok (.invokespecial index, 3))
    (hf : rm.frames + 1 ≤ R.frames) (hl : (rest.map fun v => v.category).sum + (cm + 11) + rm.locals ≤ R.locals) (hk : k + rm.cells ≤ R.cells) (hn : n + rm.slots ≤ R.slots)
    (hw : ∀ v h', Q' v h' → WP x n0 Q h' (k + rm.cells) (n + rm.slots) (pc + 3) L (v.toList ++ rest)) : WP x n0 Q h k n pc L S := fun T locs X e N => by
  have hZ := ok.2.2.2.2.2.1
  have hR := ok.2.2.2.2.2.2.2.2
  obtain ⟨v, _, ⟨T', L2, k2, n2⟩, -, X', ⟨Lc, hQ, l1, y1, z1⟩, st⟩ := X.specialBack ok.1 (y := y) hy1 ok.2.2.2.1 (mvT hZ w1) (mvT hZ w2) (mvT hZ w4) hy (backOf (W := (rest.map fun v => v.category).sum) (Q := fun v h L => Q' v h ∧ Fr n0 L) C hZ w4 w3 (by rw [hR]; exact hf) (by rw [hR]; exact hl)) (g := mkF x.m pc L S) rfl (by show L.size = _; rw [ok.2.2.1]; exact hL) (Steps.refl _) (a := a) (argsL := argsL) (rest := rest) (lenOf pd hlen) hst (by show 2 * 0 + _ ≤ _; omega) (hb ok.2.1 hd) (fun _ _ => ⟨rfl, e, by rw [hR]; exact hk, by rw [hR]; exact hn⟩)
  dsimp only [Pt.U, Pt.locs, Pt.cells, Pt.slots] at X' l1 y1 z1 st hQ
  subst l1 y1 z1
  obtain ⟨s₂, o, h1, r⟩ := hw v _ hQ.1 T' _ X' rfl (Fr.app N hQ.2)
  exact ⟨s₂, o, st.trans h1, r⟩
theorem wp_virtual {y : MethodName} {cb : ByteArray} {cm : Nat} {cr : Option FieldType} {rm : Room} {index : Nat} {argsL : List Value} {Q' : Post} {ps : List FieldType} {C : String} (ok : Ok x Z own nm bytes ml rt R) (w1 : (Jvm.Cond.methodLink own index y).before a0 Z = true) (w5 : (Jvm.Cond.declares y).before a0 Z = true) (w6 : (Jvm.Cond.selects C y y).before a0 Z = true) (w2 : (Jvm.Cond.instanceMethod y).before a0 Z = true) (w3 : (Jvm.Cond.initialized y.cls).before a0 Z = true) (w4 : (Jvm.Cond.code y cb cm cr).before a0 Z = true)
    (hy : y.cls ≠ "java/lang/invoke/MethodHandle" ∧ y.cls ≠ "java/lang/invoke/VarHandle") (E : Exa Z h a C) (Cn : Con x.l Z y cb cm cr rm (Value.ref a :: argsL).toArray h n0 Q' []) (pd : parseMethodDescriptor y.desc = some ⟨ps, cr⟩) (hlen : argsL.length = ps.length) (hst : S = argsL.reverse ++ .ref a :: rest) (hL : L.size = ml) (hd : decode bytes pc = .ok (.invokevirtual index, 3))
    (hf : rm.frames + 1 ≤ R.frames) (hl : (rest.map fun v => v.category).sum + (cm + 11) + rm.locals ≤ R.locals) (hk : k + rm.cells ≤ R.cells) (hn : n + rm.slots ≤ R.slots)
    (hw : ∀ v h', Q' v h' → WP x n0 Q h' (k + rm.cells) (n + rm.slots) (pc + 3) L (v.toList ++ rest)) : WP x n0 Q h k n pc L S := fun T locs X e N => by
  have hZ := ok.2.2.2.2.2.1
  have hR := ok.2.2.2.2.2.2.2.2
  obtain ⟨cq, kq, qa, qb, qc⟩ := isOf (T := T) (s := x.s) hZ e E
  obtain ⟨v, _, ⟨T', L2, k2, n2⟩, -, X', ⟨Lc, hQ, l1, y1, z1⟩, st⟩ := X.virtualBack ok.1 (y := y) (z := y) ok.2.2.2.1 (mvT hZ w1) (mvT hZ w5) (notFace_of_selects (args := #[]) (mvT hZ w6)) (mvT hZ w6) (mvT hZ w2) hy (backOf (W := (rest.map fun v => v.category).sum) (Q := fun v h L => Q' v h ∧ Fr n0 L) Cn hZ w4 w3 (by rw [hR]; exact hf) (by rw [hR]; exact hl)) qa qc (g := mkF x.m pc L S) rfl (by show L.size = _; rw [ok.2.2.1]; exact hL) (Steps.refl _) (argsL := argsL) (rest := rest) (lenOf pd hlen) hst (by show 2 * 0 + _ ≤ _; omega) (hb ok.2.1 hd) (fun _ _ => ⟨rfl, e, by rw [hR]; exact hk, by rw [hR]; exact hn⟩)
  dsimp only [Pt.U, Pt.locs, Pt.cells, Pt.slots] at X' l1 y1 z1 st hQ
  subst l1 y1 z1
  obtain ⟨s₂, o, h1, r⟩ := hw v _ hQ.1 T' _ X' rfl (Fr.app N hQ.2)
  exact ⟨s₂, o, st.trans h1, r⟩
/-! ## arrays -/
theorem wp_newA {aty : ArrayType} {z : Int32} {cap : Nat} (ok : Ok x Z own nm bytes ml rt R) (w : (Jvm.Cond.arrayClass (newarray.typeOf aty)).before a0 Z = true) (hd : decode bytes pc = .ok (.newarray aty, 2)) (hz : ¬ z < 0) (hcap : z.toNatClampNeg ≤ cap) (hb8 : cap * 8 ≤ 536870912) (hk : k + 1 ≤ R.cells) (hn : n + cap ≤ R.slots)
    (hw : ∀ h' a cA, a = h.size → Ext h h' → Arr Z h' a (newA cA (newarray.typeOf aty) z) (newarray.typeOf aty) → WP x n0 Q h' (k + 1) (n + cap) (pc + 2) L (.ref a :: rest)) : WP x n0 Q h k n pc L (.int z :: rest) := fun T locs X e N => by
  obtain ⟨T', h', cA, X', e', E, A, st⟩ := newP X ok.1 ok.2.2.2.2.2.1 w e (g := mkF x.m pc L (.int z :: rest)) rfl (hb ok.2.1 hd) rfl hz hcap hb8 (by rw [ok.2.2.2.2.2.2.2.2]; exact hk) (by rw [ok.2.2.2.2.2.2.2.2]; exact hn)
  obtain ⟨s₂, o, h1, r⟩ := hw h' _ cA rfl E A T' _ X' e' N
  exact ⟨s₂, o, st _ h1, r⟩
theorem wp_stI {cl : Cell} {j z : Int32} (ok : Ok x Z own nm bytes ml rt R) (A : Arr Z h a cl .int) (hj : ¬ (j < 0 ∨ cl.slots.size ≤ j.toNatClampNeg)) (hd : decode bytes pc = .ok (.iastore, 1)) (ha : n0 ≤ a)
    (hw : ∀ h', Wr h h' a j.toNatClampNeg (.int z) → WP x n0 Q h' k n (pc + 1) L rest) : WP x n0 Q h k n pc L (.int z :: .int j :: .ref a :: rest) := fun T locs X e N => by
  obtain ⟨T', h', X', e', W, st⟩ := stI X ok.1 ok.2.2.2.2.2.1 e A hj (g := mkF x.m pc L (.int z :: .int j :: .ref a :: rest)) rfl rfl (hb ok.2.1 hd)
  obtain ⟨s₂, o, h1, r⟩ := hw h' W T' _ X' e' (Fr.snoc X' N ha)
  exact ⟨s₂, o, st _ h1, r⟩
theorem wp_stJ {cl : Cell} {j : Int32} {z : Int64} (ok : Ok x Z own nm bytes ml rt R) (A : Arr Z h a cl .long) (hj : ¬ (j < 0 ∨ cl.slots.size ≤ j.toNatClampNeg)) (hd : decode bytes pc = .ok (.lastore, 1)) (ha : n0 ≤ a)
    (hw : ∀ h', Wr h h' a j.toNatClampNeg (.long z) → WP x n0 Q h' k n (pc + 1) L rest) : WP x n0 Q h k n pc L (.long z :: .int j :: .ref a :: rest) := fun T locs X e N => by
  obtain ⟨T', h', X', e', W, st⟩ := stJ X ok.1 ok.2.2.2.2.2.1 e A hj (g := mkF x.m pc L (.long z :: .int j :: .ref a :: rest)) rfl rfl (hb ok.2.1 hd)
  obtain ⟨s₂, o, h1, r⟩ := hw h' W T' _ X' e' (Fr.snoc X' N ha)
  exact ⟨s₂, o, st _ h1, r⟩
theorem wp_ldI {cl : Cell} {j : Int32} (ok : Ok x Z own nm bytes ml rt R) (A : Arr Z h a cl .int) (hj : ¬ (j < 0 ∨ cl.slots.size ≤ j.toNatClampNeg)) (hv : cl.slots[j.toNatClampNeg]? = some v) (hd : decode bytes pc = .ok (.iaload, 1)) (hw : WP x n0 Q h k n (pc + 1) L (v :: rest)) : WP x n0 Q h k n pc L (.int j :: .ref a :: rest) :=
  wp_steps (fun T locs target X e hr => X.iaload ok.1 (by rw [e]; exact A.1) (State.isArrayOf_alike ok.2.2.2.2.2.1.alike A.2.1) A.2.2 hj hv (g := mkF x.m pc L (.int j :: .ref a :: rest)) rfl rfl (hb ok.2.1 hd) target hr) hw
theorem wp_ldJ {cl : Cell} {j : Int32} (ok : Ok x Z own nm bytes ml rt R) (A : Arr Z h a cl .long) (hj : ¬ (j < 0 ∨ cl.slots.size ≤ j.toNatClampNeg)) (hv : cl.slots[j.toNatClampNeg]? = some v) (hd : decode bytes pc = .ok (.laload, 1)) (hw : WP x n0 Q h k n (pc + 1) L (v :: rest)) : WP x n0 Q h k n pc L (.int j :: .ref a :: rest) :=
  wp_steps (fun T locs target X e hr => X.laload ok.1 (by rw [e]; exact A.1) (State.isArrayOf_alike ok.2.2.2.2.2.1.alike A.2.1) A.2.2 hj hv (g := mkF x.m pc L (.int j :: .ref a :: rest)) rfl rfl (hb ok.2.1 hd) target hr) hw
theorem wp_ldB {cl : Cell} {j : Int32} (ok : Ok x Z own nm bytes ml rt R) (A : Arr Z h a cl .byte) (hj : ¬ (j < 0 ∨ cl.slots.size ≤ j.toNatClampNeg)) (hv : cl.slots[j.toNatClampNeg]? = some v) (hd : decode bytes pc = .ok (.baload, 1)) (hw : WP x n0 Q h k n (pc + 1) L (v :: rest)) : WP x n0 Q h k n pc L (.int j :: .ref a :: rest) :=
  wp_steps (fun T locs target X e hr => X.baloadBytes ok.1 (by rw [e]; exact A.1) (State.isArrayOf_alike ok.2.2.2.2.2.1.alike A.2.1) A.2.2 hj hv (g := mkF x.m pc L (.int j :: .ref a :: rest)) rfl rfl (hb ok.2.1 hd) target hr) hw
theorem wp_ldZ {cl : Cell} {j : Int32} (ok : Ok x Z own nm bytes ml rt R) (A : Arr Z h a cl .boolean) (hj : ¬ (j < 0 ∨ cl.slots.size ≤ j.toNatClampNeg)) (hv : cl.slots[j.toNatClampNeg]? = some v) (hd : decode bytes pc = .ok (.baload, 1)) (hw : WP x n0 Q h k n (pc + 1) L (v :: rest)) : WP x n0 Q h k n pc L (.int j :: .ref a :: rest) :=
  wp_steps (fun T locs target X e hr => X.baloadBooleans ok.1 (by rw [e]; exact A.1) (State.isArrayOf_alike ok.2.2.2.2.2.1.alike A.2.1) A.2.2 hj hv (g := mkF x.m pc L (.int j :: .ref a :: rest)) rfl rfl (hb ok.2.1 hd) target hr) hw
theorem wp_len {cl : Cell} {ty : FieldType} (ok : Ok x Z own nm bytes ml rt R) (A : Arr Z h a cl ty) (hd : decode bytes pc = .ok (.arraylength, 1)) (hw : WP x n0 Q h k n (pc + 1) L (.int cl.slots.size.toInt32 :: rest)) : WP x n0 Q h k n pc L (.ref a :: rest) :=
  wp_steps (fun T locs target X e hr => X.arraylength ok.1 (by rw [e]; exact A.1) (State.isArrayOf_alike ok.2.2.2.2.2.1.alike A.2.1) (g := mkF x.m pc L (.ref a :: rest)) rfl rfl (hb ok.2.1 hd) target hr) hw
end Rules
end Jvm.OwnW
namespace Jvm.OwnW
open Jvm.RoadKit
theorem c_lmod (x y : Int64) (d : Int) (hy : y.toInt = d) : (0 ≤ x.toInt → (x % y).toInt = x.toInt % d) ∧ (x.toInt < 0 → (x % y).toInt = -((-x.toInt) % d)) := by rw [← lrem_mod]; exact c_lrem x y d hy
theorem x_ladd {x y : Int64} (h1 : -9223372036854775808 ≤ x.toInt + y.toInt) (h2 : x.toInt + y.toInt < 9223372036854775808) : (x + y).toInt = x.toInt + y.toInt := by
  have := c_ladd x y; have := (x + y).toInt_lt; have := (x + y).le_toInt; omega
theorem x_lsub {x y : Int64} (h1 : -9223372036854775808 ≤ x.toInt - y.toInt) (h2 : x.toInt - y.toInt < 9223372036854775808) : (x - y).toInt = x.toInt - y.toInt := by
  have := c_lsub x y; have := (x - y).toInt_lt; have := (x - y).le_toInt; omega
theorem x_lmul {x y : Int64} (h1 : -9223372036854775808 ≤ x.toInt * y.toInt) (h2 : x.toInt * y.toInt < 9223372036854775808) : (x * y).toInt = x.toInt * y.toInt := by
  have q := c_lmul x y; have := (x * y).toInt_lt; have := (x * y).le_toInt
  generalize x.toInt * y.toInt = p at *; omega
theorem x_iadd {x y : Int32} (h1 : -2147483648 ≤ x.toInt + y.toInt) (h2 : x.toInt + y.toInt < 2147483648) : (x + y).toInt = x.toInt + y.toInt := by
  have := c_iadd x y; have := (x + y).toInt_lt; have := (x + y).le_toInt; omega
theorem x_isub {x y : Int32} (h1 : -2147483648 ≤ x.toInt - y.toInt) (h2 : x.toInt - y.toInt < 2147483648) : (x - y).toInt = x.toInt - y.toInt := by
  have := c_isub x y; have := (x - y).toInt_lt; have := (x - y).le_toInt; omega
theorem x_imul {x y : Int32} (h1 : -2147483648 ≤ x.toInt * y.toInt) (h2 : x.toInt * y.toInt < 2147483648) : (x * y).toInt = x.toInt * y.toInt := by
  have q := c_imul x y; have := (x * y).toInt_lt; have := (x * y).le_toInt
  generalize x.toInt * y.toInt = p at *; omega
theorem nar01 {z : Int32} (h : z = 0 ∨ z = 1) : nar .boolean z = z := by rcases h with rfl | rfl <;> rfl
end Jvm.OwnW
namespace Jvm.OwnW
open Sem ClassFile Op Lib Jvm.Free Jvm.Stand Jvm.LawKit Jvm.RoadKit Jvm.Free.XT
/-! ## plain steps, by evaluation: a block of instructions from a frame to a frame, with the props that it asks (a branch's direction, a divisor) -/
def ush (x y : Int32) : Int32 := (x.toUInt32 >>> (y &&& 31).toUInt32).toInt32
def ushL (x : Int64) (y : Int32) : Int64 := (x.toUInt64 >>> (y &&& 63).toInt64.toUInt64).toInt64
theorem c_ush (x q : Int32) (k : Nat) (hk : q.toBitVec.toNat % 32 = k) (h0 : 0 < k) : (ush x q).toInt = (x.toInt % 4294967296) / (2 ^ k : Nat) := c_iushr x q k hk h0
theorem c_ushL (x : Int64) (q : Int32) (k : Nat) (hk : q.toBitVec.toNat % 64 = k) (h0 : 0 < k) : (ushL x q).toInt = (x.toInt % 18446744073709551616) / (2 ^ k : Nat) := c_lushr x q k hk h0
abbrev Res : Type := Option (List Prop × Nat × Array Slot × List Value)
def bin32 (f : Int32 → Int32 → Int32) (pc : Nat) (L : Array Slot) : List Value → Res
  | .int y :: .int z :: r => some ([], pc + 1, L, .int (f z y) :: r)
  | _ => none
def bin64 (f : Int64 → Int64 → Int64) (pc : Nat) (L : Array Slot) : List Value → Res
  | .long y :: .long z :: r => some ([], pc + 1, L, .long (f z y) :: r)
  | _ => none
def sh64 (f : Int64 → Int32 → Int64) (pc : Nat) (L : Array Slot) : List Value → Res
  | .int y :: .long z :: r => some ([], pc + 1, L, .long (f z y) :: r)
  | _ => none
def un32 (f : Int32 → Value) (pc : Nat) (L : Array Slot) : List Value → Res
  | .int z :: r => some ([], pc + 1, L, f z :: r)
  | _ => none
def un64 (f : Int64 → Value) (pc : Nat) (L : Array Slot) : List Value → Res
  | .long z :: r => some ([], pc + 1, L, f z :: r)
  | _ => none
def ldK (ok : Value → Bool) (i pc' : Nat) (L : Array Slot) (S : List Value) : Res :=
  match L[i]? with
  | some (.val v) => if ok v = true then some ([], pc', L, v :: S) else none
  | _ => none
def stK (ok : Value → Bool) (i pc' : Nat) (L : Array Slot) : List Value → Res
  | v :: r => if ok v = true then (match storeLocals L i v with | some L' => some ([], pc', L', r) | none => none) else none
  | [] => none
def isI : Value → Bool | .int _ => true | _ => false
def isJ : Value → Bool | .long _ => true | _ => false
def constI : Option Value → Option Int32 | some (.int z) => some z | _ => none
def constJ : Option Value → Option Int64 | some (.long z) => some z | _ => none
def look (K : List (Nat × Value)) (i : Nat) : Option Value := match K with
  | [] => none
  | (j, v) :: r => if j = i then some v else look r i
def jump (pc : Nat) (o : Int) : Option Nat := if 0 ≤ (pc : Int) + o then some ((pc : Int) + o).toNat else none
def br (p : Prop) (b : Bool) (pc : Nat) (o : Int) (L : Array Slot) (S : List Value) : Res :=
  if b = true then (match jump pc o with | some q => some ([p], q, L, S) | none => none) else some ([p], pc + 3, L, S)
def stp (K : List (Nat × Value)) (b : Bool) (i : Instr) (pc : Nat) (L : Array Slot) (S : List Value) : Res :=
  match i with
  | .iconst z => some ([], pc + 1, L, .int (Int32.ofInt z) :: S)
  | .bipush z => some ([], pc + 2, L, .int (Int8.ofInt z).toInt32 :: S)
  | .sipush z => some ([], pc + 3, L, .int (Int16.ofInt z).toInt32 :: S)
  | .lconst z => some ([], pc + 1, L, .long (Int64.ofNat z) :: S)
  | .aconst_null => some ([], pc + 1, L, .null :: S)
  | .ldc j => (match constI (look K j) with | some z => some ([], pc + 2, L, .int z :: S) | none => none)
  | .ldc2_w j => (match constJ (look K j) with | some z => some ([], pc + 3, L, .long z :: S) | none => none)
  | .iload_n j => ldK isI j.val (pc + 1) L S
  | .iload j => ldK isI j (pc + 2) L S
  | .lload_n j => ldK isJ j.val (pc + 1) L S
  | .lload j => ldK isJ j (pc + 2) L S
  | .aload_n j => ldK Value.isRef j.val (pc + 1) L S
  | .aload j => ldK Value.isRef j (pc + 2) L S
  | .istore_n j => stK isI j.val (pc + 1) L S
  | .istore j => stK isI j (pc + 2) L S
  | .lstore_n j => stK isJ j.val (pc + 1) L S
  | .lstore j => stK isJ j (pc + 2) L S
  | .astore_n j => stK Value.isRef j.val (pc + 1) L S
  | .astore j => stK Value.isRef j (pc + 2) L S
  | .iadd => bin32 (fun z y => z + y) pc L S
  | .isub => bin32 (fun z y => z - y) pc L S
  | .imul => bin32 (fun z y => z * y) pc L S
  | .iand => bin32 (fun z y => z &&& y) pc L S
  | .ior => bin32 (fun z y => z ||| y) pc L S
  | .ixor => bin32 (fun z y => z ^^^ y) pc L S
  | .ishl => bin32 (fun z y => z <<< (y &&& 31)) pc L S
  | .ishr => bin32 (fun z y => z >>> (y &&& 31)) pc L S
  | .iushr => bin32 (fun z y => ush z y) pc L S
  | .ladd => bin64 (fun z y => z + y) pc L S
  | .lsub => bin64 (fun z y => z - y) pc L S
  | .lmul => bin64 (fun z y => z * y) pc L S
  | .land => bin64 (fun z y => z &&& y) pc L S
  | .lor => bin64 (fun z y => z ||| y) pc L S
  | .lxor => bin64 (fun z y => z ^^^ y) pc L S
  | .lshl => sh64 (fun z y => z <<< (y &&& 63).toInt64) pc L S
  | .lshr => sh64 (fun z y => z >>> (y &&& 63).toInt64) pc L S
  | .lushr => sh64 (fun z y => ushL z y) pc L S
  | .ineg => un32 (fun z => .int (-z)) pc L S
  | .lneg => un64 (fun z => .long (-z)) pc L S
  | .i2l => un32 (fun z => .long z.toInt64) pc L S
  | .l2i => un64 (fun z => .int z.toInt32) pc L S
  | .i2b => un32 (fun z => .int z.toInt8.toInt32) pc L S
  | .i2c => un32 (fun z => .int z.toUInt32.toUInt16.toUInt32.toInt32) pc L S
  | .i2s => un32 (fun z => .int z.toInt16.toInt32) pc L S
  | .idiv => (match S with | .int y :: .int z :: r => some ([y ≠ 0], pc + 1, L, .int (z / y) :: r) | _ => none)
  | .irem => (match S with | .int y :: .int z :: r => some ([y ≠ 0], pc + 1, L, .int (z % y) :: r) | _ => none)
  | .ldiv => (match S with | .long y :: .long z :: r => some ([y ≠ 0], pc + 1, L, .long (z / y) :: r) | _ => none)
  | .lrem => (match S with | .long y :: .long z :: r => some ([y ≠ 0], pc + 1, L, .long (z % y) :: r) | _ => none)
  | .lcmp => (match S with | .long y :: .long z :: r => some ([], pc + 1, L, .int (cmpL z y) :: r) | _ => none)
  | .pop => (match S with | v :: r => if v.category = 1 then some ([], pc + 1, L, r) else none | _ => none)
  | .dup => (match S with | v :: r => if v.category = 1 then some ([], pc + 1, L, v :: v :: r) else none | _ => none)
  | .dup_x1 => (match S with | v :: w :: r => if v.category = 1 ∧ w.category = 1 then some ([], pc + 1, L, v :: w :: v :: r) else none | _ => none)
  | .dup2 => (match S with | v :: w :: r => if v.category = 1 ∧ w.category = 1 then some ([], pc + 1, L, v :: w :: v :: w :: r) else none | _ => none)
  | .iinc j c => (match L[j]? with | some (.val (.int z)) => (match storeLocals L j (.int (z + Int32.ofInt c)) with | some L' => some ([], pc + 3, L', S) | none => none) | _ => none)
  | .goto o => (match jump pc o with | some q => some ([], q, L, S) | none => none)
  | .ifCond cd o => (match S with | .int z :: r => br (ifCond.holds cd z = b) b pc o L r | _ => none)
  | .if_icmp cd o => (match S with | .int y :: .int z :: r => br (if_icmp.holds cd z y = b) b pc o L r | _ => none)
  | .ifnull o => (match S with | .null :: r => if b = true then br True b pc o L r else none | .ref _ :: r => if b = true then none else br True b pc o L r | _ => none)
  | .ifnonnull o => (match S with | .null :: r => if b = true then none else br True b pc o L r | .ref _ :: r => if b = true then br True b pc o L r else none | _ => none)
  | _ => none
def ilen : Instr → Nat
  | .bipush _ => 2 | .ldc _ => 2 | .iload _ => 2 | .lload _ => 2 | .aload _ => 2 | .istore _ => 2 | .lstore _ => 2 | .astore _ => 2
  | .sipush _ => 3 | .ldc2_w _ => 3 | .iinc _ _ => 3 | .goto _ => 3 | .ifCond _ _ => 3 | .if_icmp _ _ => 3 | .ifnull _ => 3 | .ifnonnull _ => 3
  | _ => 1
def runL (K : List (Nat × Value)) : List (Nat × Instr × Bool) → Nat → Array Slot → List Value → Res
  | [], pc, L, S => some ([], pc, L, S)
  | (q, i, b) :: r, pc, L, S => if q = pc then (match stp K b i pc L S with
      | none => none
      | some (ps, pc', L', S') => match runL K r pc' L' S' with
        | none => none
        | some (ps', t) => some (ps ++ ps', t)) else none
def decs (bytes : ByteArray) (B : List (Nat × Instr × Bool)) : Bool := B.all fun q => decide (decode bytes q.1 = .ok (q.2.1, ilen q.2.1))
def allP : List Prop → Prop
  | [] => True
  | p :: r => p ∧ allP r
theorem allP_append {ps qs : List Prop} (h : allP (ps ++ qs)) : allP ps ∧ allP qs := by
  induction ps with
  | nil => exact ⟨trivial, h⟩
  | cons p r ih => exact ⟨⟨h.1, (ih h.2).1⟩, (ih h.2).2⟩
def Konst (Z : State) (a0 : Array Value) (own : String) : List (Nat × Value) → Prop
  | [] => True
  | (i, v) :: r => ((∃ z, v = .int z ∧ (Jvm.Cond.constant own i z).before a0 Z = true) ∨ (∃ z, v = .long z ∧ (Jvm.Cond.constantLong own i z).before a0 Z = true)) ∧ Konst Z a0 own r
theorem look_spec {Z : State} {a0 : Array Value} {own : String} {K : List (Nat × Value)} (hK : Konst Z a0 own K) {i : Nat} {v : Value} (h : look K i = some v) : (∃ z, v = .int z ∧ (Jvm.Cond.constant own i z).before a0 Z = true) ∨ (∃ z, v = .long z ∧ (Jvm.Cond.constantLong own i z).before a0 Z = true) := by
  induction K with
  | nil => cases h
  | cons q r ih =>
    obtain ⟨j, w⟩ := q
    simp only [look] at h
    split at h
    · rename_i e; subst e; cases h; exact hK.1
    · exact ih hK.2 h
theorem constI_spec {o : Option Value} {z : Int32} (h : constI o = some z) : o = some (.int z) := by
  cases o with
  | none => cases h
  | some v => cases v <;> simp [constI] at h; rw [h]
theorem constJ_spec {o : Option Value} {z : Int64} (h : constJ o = some z) : o = some (.long z) := by
  cases o with
  | none => cases h
  | some v => cases v <;> simp [constJ] at h; rw [h]
theorem ldK_spec {ok : Value → Bool} {i q : Nat} {L : Array Slot} {S : List Value} {ps : List Prop} {pc' : Nat} {L' : Array Slot} {S' : List Value} (h : ldK ok i q L S = some (ps, pc', L', S')) : ∃ v, L[i]? = some (.val v) ∧ ok v = true ∧ pc' = q ∧ L' = L ∧ S' = v :: S := by
  unfold ldK at h
  split at h
  · split at h
    · rename_i v e1 e2; cases h; exact ⟨v, e1, e2, rfl, rfl, rfl⟩
    · cases h
  · cases h
theorem stK_spec {ok : Value → Bool} {i q : Nat} {L : Array Slot} {S : List Value} {ps : List Prop} {pc' : Nat} {L' : Array Slot} {S' : List Value} (h : stK ok i q L S = some (ps, pc', L', S')) : ∃ v, S = v :: S' ∧ ok v = true ∧ pc' = q ∧ storeLocals L i v = some L' := by
  cases S with
  | nil => cases h
  | cons v r =>
    simp only [stK] at h
    split at h
    · split at h
      · rename_i e1 _ _ e2; cases h; exact ⟨v, rfl, e1, rfl, e2⟩
      · cases h
    · cases h
theorem isI_spec {v : Value} (h : isI v = true) : ∃ z, v = .int z := by cases v <;> simp [isI] at h ⊢
theorem isJ_spec {v : Value} (h : isJ v = true) : ∃ z, v = .long z := by cases v <;> simp [isJ] at h ⊢
theorem bin32_spec {f : Int32 → Int32 → Int32} {pc : Nat} {L : Array Slot} {S : List Value} {ps : List Prop} {pc' : Nat} {L' : Array Slot} {S' : List Value} (h : bin32 f pc L S = some (ps, pc', L', S')) : ∃ z y r, S = .int y :: .int z :: r ∧ pc' = pc + 1 ∧ L' = L ∧ S' = .int (f z y) :: r := by
  unfold bin32 at h; split at h
  · cases h; exact ⟨_, _, _, rfl, rfl, rfl, rfl⟩
  · cases h
theorem bin64_spec {f : Int64 → Int64 → Int64} {pc : Nat} {L : Array Slot} {S : List Value} {ps : List Prop} {pc' : Nat} {L' : Array Slot} {S' : List Value} (h : bin64 f pc L S = some (ps, pc', L', S')) : ∃ z y r, S = .long y :: .long z :: r ∧ pc' = pc + 1 ∧ L' = L ∧ S' = .long (f z y) :: r := by
  unfold bin64 at h; split at h
  · cases h; exact ⟨_, _, _, rfl, rfl, rfl, rfl⟩
  · cases h
theorem sh64_spec {f : Int64 → Int32 → Int64} {pc : Nat} {L : Array Slot} {S : List Value} {ps : List Prop} {pc' : Nat} {L' : Array Slot} {S' : List Value} (h : sh64 f pc L S = some (ps, pc', L', S')) : ∃ z y r, S = .int y :: .long z :: r ∧ pc' = pc + 1 ∧ L' = L ∧ S' = .long (f z y) :: r := by
  unfold sh64 at h; split at h
  · cases h; exact ⟨_, _, _, rfl, rfl, rfl, rfl⟩
  · cases h
theorem un32_spec {f : Int32 → Value} {pc : Nat} {L : Array Slot} {S : List Value} {ps : List Prop} {pc' : Nat} {L' : Array Slot} {S' : List Value} (h : un32 f pc L S = some (ps, pc', L', S')) : ∃ z r, S = .int z :: r ∧ pc' = pc + 1 ∧ L' = L ∧ S' = f z :: r := by
  unfold un32 at h; split at h
  · cases h; exact ⟨_, _, rfl, rfl, rfl, rfl⟩
  · cases h
theorem un64_spec {f : Int64 → Value} {pc : Nat} {L : Array Slot} {S : List Value} {ps : List Prop} {pc' : Nat} {L' : Array Slot} {S' : List Value} (h : un64 f pc L S = some (ps, pc', L', S')) : ∃ z r, S = .long z :: r ∧ pc' = pc + 1 ∧ L' = L ∧ S' = f z :: r := by
  unfold un64 at h; split at h
  · cases h; exact ⟨_, _, rfl, rfl, rfl, rfl⟩
  · cases h
theorem jump_spec {pc q : Nat} {o : Int} (h : jump pc o = some q) : 0 ≤ (pc : Int) + o ∧ ((pc : Int) + o).toNat = q := by
  unfold jump at h; split at h
  · cases h; exact ⟨by assumption, rfl⟩
  · cases h
theorem br_spec {p : Prop} {b : Bool} {pc : Nat} {o : Int} {L : Array Slot} {S : List Value} {ps : List Prop} {pc' : Nat} {L' : Array Slot} {S' : List Value} (h : br p b pc o L S = some (ps, pc', L', S')) : ps = [p] ∧ L' = L ∧ S' = S ∧ ((b = true ∧ jump pc o = some pc') ∨ (b = false ∧ pc' = pc + 3)) := by
  unfold br at h; split at h
  · rename_i e; split at h
    · rename_i e2; cases h; exact ⟨rfl, rfl, rfl, Or.inl ⟨e, e2⟩⟩
    · cases h
  · rename_i e; cases h; exact ⟨rfl, rfl, rfl, Or.inr ⟨by simpa using e, rfl⟩⟩
section Run
variable {x : Cx} {Z : State} {own nm : String} {bytes : ByteArray} {ml : Nat} {rt : Option FieldType} {R : Room} {n0 : Nat} {Q : Post} {h : Heap} {k n : Nat} {pc pc' : Nat} {L L' : Array Slot} {S S' rest : List Value} {a0 : Array Value} {K : List (Nat × Value)} {ps : List Prop}
theorem stp_ok (ok : Ok x Z own nm bytes ml rt R) (hK : Konst Z a0 own K) {b : Bool} {i : Instr} (hd : decode bytes pc = .ok (i, ilen i)) (hs : stp K b i pc L S = some (ps, pc', L', S')) (hp : allP ps)
    {T : State} {locs : List Loc} {target : State} (X : Sd x T locs k n) (hr : Steps x.p.tables x.e x.below (T.setTop (mkF x.m pc' L' S')) target) : Steps x.p.tables x.e x.below (T.setTop (mkF x.m pc L S)) target := by
  obtain ⟨hx, hby, -, hown, -, hZ, -⟩ := ok
  have hd' := hb hby hd
  have hA : At T x.m x.c x.below := X.here
  cases i
  case iconst z => cases hs; exact XS.iconst hA hx rfl hd' hr
  case bipush z => cases hs; exact XS.bipush hA hx rfl hd' hr
  case sipush z => cases hs; exact XS.sipush hA hx rfl hd' hr
  case lconst z => cases hs; exact XS.lconst hA hx rfl hd' hr
  case aconst_null => cases hs; exact XS.aconstNull hA hx rfl hd' hr
  case ldc j =>
    simp only [stp] at hs
    split at hs
    · rename_i e
      cases hs
      rcases look_spec hK (constI_spec e) with ⟨z, e1, e2⟩ | ⟨z, e1, e2⟩
      · cases e1; exact X.ldcI hx hown (mvT hZ e2) rfl hd' hr
      · cases e1
    · cases hs
  case ldc2_w j =>
    simp only [stp] at hs
    split at hs
    · rename_i e
      cases hs
      rcases look_spec hK (constJ_spec e) with ⟨z, e1, e2⟩ | ⟨z, e1, e2⟩
      · cases e1
      · cases e1; exact X.ldc2J hx hown (mvT hZ e2) rfl hd' hr
    · cases hs
  case iload_n j => obtain ⟨v, e1, e2, rfl, rfl, rfl⟩ := ldK_spec hs; obtain ⟨z, rfl⟩ := isI_spec e2; exact XS.iloadN hA hx rfl hd' e1 hr
  case iload j => obtain ⟨v, e1, e2, rfl, rfl, rfl⟩ := ldK_spec hs; obtain ⟨z, rfl⟩ := isI_spec e2; exact XS.iload hA hx rfl hd' e1 hr
  case lload_n j => obtain ⟨v, e1, e2, rfl, rfl, rfl⟩ := ldK_spec hs; obtain ⟨z, rfl⟩ := isJ_spec e2; exact XS.lloadN hA hx rfl hd' e1 hr
  case lload j => obtain ⟨v, e1, e2, rfl, rfl, rfl⟩ := ldK_spec hs; obtain ⟨z, rfl⟩ := isJ_spec e2; exact XS.lload hA hx rfl hd' e1 hr
  case aload_n j => obtain ⟨v, e1, e2, rfl, rfl, rfl⟩ := ldK_spec hs; exact XS.aloadN hA hx rfl hd' e1 e2 hr
  case aload j => obtain ⟨v, e1, e2, rfl, rfl, rfl⟩ := ldK_spec hs; exact XS.aload hA hx rfl hd' e1 e2 hr
  case istore_n j => obtain ⟨v, rfl, e2, rfl, e3⟩ := stK_spec hs; obtain ⟨z, rfl⟩ := isI_spec e2; exact XS.istoreN hA hx rfl hd' rfl e3 hr
  case istore j => obtain ⟨v, rfl, e2, rfl, e3⟩ := stK_spec hs; obtain ⟨z, rfl⟩ := isI_spec e2; exact XS.istore hA hx rfl hd' rfl e3 hr
  case lstore_n j => obtain ⟨v, rfl, e2, rfl, e3⟩ := stK_spec hs; obtain ⟨z, rfl⟩ := isJ_spec e2; exact XS.lstoreN hA hx rfl hd' rfl e3 hr
  case lstore j => obtain ⟨v, rfl, e2, rfl, e3⟩ := stK_spec hs; obtain ⟨z, rfl⟩ := isJ_spec e2; exact XS.lstore hA hx rfl hd' rfl e3 hr
  case astore_n j => obtain ⟨v, rfl, e2, rfl, e3⟩ := stK_spec hs; exact XS.astoreN hA hx rfl hd' rfl e2 e3 hr
  case astore j => obtain ⟨v, rfl, e2, rfl, e3⟩ := stK_spec hs; exact XS.astore hA hx rfl hd' rfl e2 e3 hr
  case iadd => obtain ⟨z, y, r, rfl, rfl, rfl, rfl⟩ := bin32_spec hs; exact XS.iadd hA hx rfl hd' rfl hr
  case isub => obtain ⟨z, y, r, rfl, rfl, rfl, rfl⟩ := bin32_spec hs; exact XS.isub hA hx rfl hd' rfl hr
  case imul => obtain ⟨z, y, r, rfl, rfl, rfl, rfl⟩ := bin32_spec hs; exact XS.imul hA hx rfl hd' rfl hr
  case iand => obtain ⟨z, y, r, rfl, rfl, rfl, rfl⟩ := bin32_spec hs; exact XS.iand hA hx rfl hd' rfl hr
  case ior => obtain ⟨z, y, r, rfl, rfl, rfl, rfl⟩ := bin32_spec hs; exact XS.ior hA hx rfl hd' rfl hr
  case ixor => obtain ⟨z, y, r, rfl, rfl, rfl, rfl⟩ := bin32_spec hs; exact XS.ixor hA hx rfl hd' rfl hr
  case ishl => obtain ⟨z, y, r, rfl, rfl, rfl, rfl⟩ := bin32_spec hs; exact XS.ishl hA hx rfl hd' rfl hr
  case ishr => obtain ⟨z, y, r, rfl, rfl, rfl, rfl⟩ := bin32_spec hs; exact XS.ishr hA hx rfl hd' rfl hr
  case iushr => obtain ⟨z, y, r, rfl, rfl, rfl, rfl⟩ := bin32_spec hs; exact XS.iushr hA hx rfl hd' rfl hr
  case ladd => obtain ⟨z, y, r, rfl, rfl, rfl, rfl⟩ := bin64_spec hs; exact XS.ladd hA hx rfl hd' rfl hr
  case lsub => obtain ⟨z, y, r, rfl, rfl, rfl, rfl⟩ := bin64_spec hs; exact XS.lsub hA hx rfl hd' rfl hr
  case lmul => obtain ⟨z, y, r, rfl, rfl, rfl, rfl⟩ := bin64_spec hs; exact XS.lmul hA hx rfl hd' rfl hr
  case land => obtain ⟨z, y, r, rfl, rfl, rfl, rfl⟩ := bin64_spec hs; exact XS.land hA hx rfl hd' rfl hr
  case lor => obtain ⟨z, y, r, rfl, rfl, rfl, rfl⟩ := bin64_spec hs; exact XS.lor hA hx rfl hd' rfl hr
  case lxor => obtain ⟨z, y, r, rfl, rfl, rfl, rfl⟩ := bin64_spec hs; exact XS.lxor hA hx rfl hd' rfl hr
  case lshl => obtain ⟨z, y, r, rfl, rfl, rfl, rfl⟩ := sh64_spec hs; exact XS.lshl hA hx rfl hd' rfl hr
  case lshr => obtain ⟨z, y, r, rfl, rfl, rfl, rfl⟩ := sh64_spec hs; exact XS.lshr hA hx rfl hd' rfl hr
  case lushr => obtain ⟨z, y, r, rfl, rfl, rfl, rfl⟩ := sh64_spec hs; exact XS.lushr hA hx rfl hd' rfl hr
  case ineg => obtain ⟨z, r, rfl, rfl, rfl, rfl⟩ := un32_spec hs; exact XS.ineg hA hx rfl hd' rfl hr
  case lneg => obtain ⟨z, r, rfl, rfl, rfl, rfl⟩ := un64_spec hs; exact XS.lneg hA hx rfl hd' rfl hr
  case i2l => obtain ⟨z, r, rfl, rfl, rfl, rfl⟩ := un32_spec hs; exact XS.i2l hA hx rfl hd' rfl hr
  case l2i => obtain ⟨z, r, rfl, rfl, rfl, rfl⟩ := un64_spec hs; exact XS.l2i hA hx rfl hd' rfl hr
  case i2b => obtain ⟨z, r, rfl, rfl, rfl, rfl⟩ := un32_spec hs; exact XS.i2b hA hx rfl hd' rfl hr
  case i2c => obtain ⟨z, r, rfl, rfl, rfl, rfl⟩ := un32_spec hs; exact XS.i2c hA hx rfl hd' rfl hr
  case i2s => obtain ⟨z, r, rfl, rfl, rfl, rfl⟩ := un32_spec hs; exact XS.i2s hA hx rfl hd' rfl hr
  case idiv =>
    simp only [stp] at hs
    split at hs
    · cases hs; exact XS.idiv hA hx rfl hd' rfl hp.1 hr
    · cases hs
  case irem =>
    simp only [stp] at hs
    split at hs
    · cases hs; exact iremM X hx rfl hd' rfl hp.1 hr
    · cases hs
  case ldiv =>
    simp only [stp] at hs
    split at hs
    · cases hs; exact XS.ldiv hA hx rfl hd' rfl hp.1 hr
    · cases hs
  case lrem =>
    simp only [stp] at hs
    split at hs
    · rename_i y z r
      cases hs
      have q : z - z / y * y = z % y := lrem_mod z y
      exact XS.lrem hA hx rfl hd' rfl hp.1 (by rw [q]; exact hr)
    · cases hs
  case lcmp =>
    simp only [stp] at hs
    split at hs
    · cases hs; exact XS.lcmp hA hx rfl hd' rfl hr
    · cases hs
  case pop =>
    simp only [stp] at hs
    split at hs
    · split at hs
      · rename_i e; cases hs; exact XS.pop hA hx rfl hd' rfl e hr
      · cases hs
    · cases hs
  case dup =>
    simp only [stp] at hs
    split at hs
    · split at hs
      · rename_i e; cases hs; exact XS.dup hA hx rfl hd' rfl e hr
      · cases hs
    · cases hs
  case dup_x1 =>
    simp only [stp] at hs
    split at hs
    · split at hs
      · rename_i e; cases hs; exact XS.dupX1 hA hx rfl hd' rfl e.1 e.2 hr
      · cases hs
    · cases hs
  case dup2 =>
    simp only [stp] at hs
    split at hs
    · split at hs
      · rename_i e; cases hs; exact XT.dup2 hA hx rfl hd' rfl e.1 e.2 hr
      · cases hs
    · cases hs
  case iinc j c =>
    simp only [stp] at hs
    split at hs
    · rename_i e1
      split at hs
      · rename_i e2; cases hs; exact XS.iinc hA hx rfl hd' e1 e2 hr
      · cases hs
    · cases hs
  case goto o =>
    simp only [stp] at hs
    split at hs
    · rename_i e; cases hs; obtain ⟨e1, e2⟩ := jump_spec e; exact XS.goto hA hx rfl rfl hd' e1 e2 hr
    · cases hs
  case ifCond cd o =>
    simp only [stp] at hs
    split at hs
    · obtain ⟨rfl, rfl, rfl, ⟨rfl, e⟩ | ⟨rfl, rfl⟩⟩ := br_spec hs
      · obtain ⟨e1, e2⟩ := jump_spec e; exact XS.ifYes hA hx rfl rfl hd' rfl hp.1 e1 e2 hr
      · exact XS.ifNo hA hx rfl hd' rfl hp.1 hr
    · cases hs
  case if_icmp cd o =>
    simp only [stp] at hs
    split at hs
    · obtain ⟨rfl, rfl, rfl, ⟨rfl, e⟩ | ⟨rfl, rfl⟩⟩ := br_spec hs
      · obtain ⟨e1, e2⟩ := jump_spec e; exact XS.icmpYes hA hx rfl rfl hd' rfl hp.1 e1 e2 hr
      · exact XS.icmpNo hA hx rfl hd' rfl hp.1 hr
    · cases hs
  case ifnull o =>
    simp only [stp] at hs
    split at hs
    · split at hs
      · rename_i e0; subst e0
        obtain ⟨rfl, rfl, rfl, ⟨-, e⟩ | ⟨e, -⟩⟩ := br_spec hs
        · obtain ⟨e1, e2⟩ := jump_spec e; exact XS.ifnullYes hA hx rfl rfl hd' rfl e1 e2 hr
        · cases e
      · cases hs
    · split at hs
      · cases hs
      · rename_i e0
        obtain ⟨rfl, rfl, rfl, ⟨e, -⟩ | ⟨-, rfl⟩⟩ := br_spec hs
        · exact absurd e e0
        · exact XS.ifnullNo hA hx rfl hd' rfl hr
    · cases hs
  case ifnonnull o =>
    simp only [stp] at hs
    split at hs
    · split at hs
      · cases hs
      · rename_i e0
        obtain ⟨rfl, rfl, rfl, ⟨e, -⟩ | ⟨-, rfl⟩⟩ := br_spec hs
        · exact absurd e e0
        · exact XS.ifnonnullNo hA hx rfl hd' rfl hr
    · split at hs
      · rename_i e0; subst e0
        obtain ⟨rfl, rfl, rfl, ⟨-, e⟩ | ⟨e, -⟩⟩ := br_spec hs
        · obtain ⟨e1, e2⟩ := jump_spec e; exact XS.ifnonnullYes hA hx rfl rfl hd' rfl e1 e2 hr
        · cases e
      · cases hs
    · cases hs
  all_goals cases hs
theorem run_ok (ok : Ok x Z own nm bytes ml rt R) (hK : Konst Z a0 own K) : ∀ (B : List (Nat × Instr × Bool)) {pc : Nat} {L : Array Slot} {S : List Value} {ps : List Prop} {pc' : Nat} {L' : Array Slot} {S' : List Value}, decs bytes B = true → runL K B pc L S = some (ps, pc', L', S') → allP ps →
    ∀ {T : State} {locs : List Loc} {target : State}, Sd x T locs k n → Steps x.p.tables x.e x.below (T.setTop (mkF x.m pc' L' S')) target → Steps x.p.tables x.e x.below (T.setTop (mkF x.m pc L S)) target
  | [], pc, L, S, ps, pc', L', S', _, hr, _, T, locs, target, X, st => by cases hr; exact st
  | (q, i, b) :: r, pc, L, S, ps, pc', L', S', hd, hr, hp, T, locs, target, X, st => by
    simp only [decs, List.all_cons, Bool.and_eq_true, decide_eq_true_eq] at hd
    simp only [runL] at hr
    split at hr
    · rename_i e; subst e
      split at hr
      · cases hr
      · rename_i ps1 pc1 L1 S1 e1
        split at hr
        · cases hr
        · rename_i ps2 t e2
          cases hr
          obtain ⟨p1, p2⟩ := allP_append hp
          exact stp_ok ok hK hd.1 e1 p1 X (run_ok ok hK r hd.2 e2 p2 X st)
    · cases hr
theorem wp_run (ok : Ok x Z own nm bytes ml rt R) (hK : Konst Z a0 own K) {B : List (Nat × Instr × Bool)} (hd : decs bytes B = true) (hr : runL K B pc L S = some (ps, pc', L', S')) (hp : allP ps) (w : WP x n0 Q h k n pc' L' S') : WP x n0 Q h k n pc L S :=
  wp_steps (fun T locs target X _ st => run_ok ok hK B hd hr hp X st) w
end Run
end Jvm.OwnW
namespace Jvm.OwnW
open Sem ClassFile Op Lib Jvm.Free Jvm.Stand Jvm.LawKit Jvm.RoadKit Jvm.Free.XT
/-! ## arrays by length and content -/
def Ar (Z : State) (h : Heap) (a : Addr) (ty : FieldType) (n : Nat) (f : Nat → Value) : Prop := ∃ c : Cell, Arr Z h a c ty ∧ c.slots.size = n ∧ ∀ i, i < n → c.slots[i]? = some (f i)
theorem idx_of {j : Int32} {i : Nat} (hj : j.toInt = i) : j.toNatClampNeg = i ∧ ¬ j < 0 := by
  refine ⟨by simp only [Int32.toNatClampNeg, hj]; exact Int.toNat_natCast i, ?_⟩
  rw [Int32.lt_iff_toInt_lt, hj]; show ¬ (i : Int) < 0; omega
theorem idx_in' {j : Int32} {i n : Nat} (hj : j.toInt = i) (hi : i < n) : ¬ (j < 0 ∨ n ≤ j.toNatClampNeg) := by
  obtain ⟨q1, q2⟩ := idx_of hj
  rw [q1]; intro q; rcases q with q | q
  · exact q2 q
  · omega
section Facts
variable {Z : State} {h h' : Heap} {a b : Addr} {ty : FieldType} {n : Nat} {f g : Nat → Value} {sl : Nat} {v : Value} {ws : List Addr}
theorem Ar.lt (A : Ar Z h a ty n f) : a < h.size := by obtain ⟨c, A, -⟩ := A; exact A.lt
theorem Ar.ext (A : Ar Z h a ty n f) (E : Ext h h') : Ar Z h' a ty n f := by obtain ⟨c, A, r⟩ := A; exact ⟨c, A.ext E, r⟩
theorem Ar.other (A : Ar Z h b ty n f) (W : Wr h h' a sl v) (q : b ≠ a) : Ar Z h' b ty n f := by obtain ⟨c, A, r⟩ := A; exact ⟨c, A.other W q, r⟩
theorem Ar.keep (A : Ar Z h a ty n f) (K : Keep h h' ws) (q : a ∉ ws) : Ar Z h' a ty n f := by obtain ⟨c, A, r⟩ := A; exact ⟨c, ⟨K.2.1 a c A.1 q, A.2⟩, r⟩
theorem Ar.cong (A : Ar Z h a ty n f) (e : ∀ i, i < n → f i = g i) : Ar Z h a ty n g := by obtain ⟨c, A, s, r⟩ := A; exact ⟨c, A, s, fun i hi => by rw [← e i hi]; exact r i hi⟩
theorem Ar.same (A : Ar Z h a ty n f) (W : Wr h h' a sl v) (hs : sl < n) : Ar Z h' a ty n (fun i => if i = sl then v else f i) := by
  obtain ⟨c, A, s, r⟩ := A
  refine ⟨_, A.same W, by rw [sz_set]; exact s, fun i hi => ?_⟩
  show (c.setSlot sl v).slots[i]? = some (if i = sl then v else f i)
  by_cases e : i = sl
  · subst e; rw [if_pos rfl]; simp [Cell.setSlot, s, hs]
  · rw [if_neg e]; simp only [Cell.setSlot]; rw [Array.getElem?_setIfInBounds_ne (Ne.symm e)]; exact r i hi
theorem Ar.new {cA : ClassId} {z : Int32} (A : Arr Z h a (newA cA ty z) ty) (hz : z.toNatClampNeg = n) : Ar Z h a ty n (fun _ => defaultValue ty) := ⟨_, A, by rw [sz_new]; exact hz, fun i hi => by simp [newA, hz, hi]⟩
theorem Ar.toArv (A : Ar Z h a ty n f) (hn : n < 2 ^ 31) (hf : ∀ i, i < n → fits ty (f i) = true) (dv : Value) : ∃ k, Arv Z h a k ty (Int32.ofNat n) ((List.range n).map f) dv := by
  obtain ⟨c, A, s, r⟩ := A
  have e : (Int32.ofNat n).toInt = n := len_toInt hn
  obtain ⟨q1, q2⟩ := idx_of e
  have gd : ∀ i, i < n → ((List.range n).map f).getD i dv = f i := fun i hi => by simp [hi]
  exact ⟨c.cls, c, A, rfl, by rw [s, q1], q2, fun i hi => by rw [s] at hi; rw [gd i hi]; exact r i hi, fun i hi => by rw [s] at hi; rw [gd i hi]; exact hf i hi⟩
theorem Ar.ofArv {k : ClassId} {z : Int32} {vs : List Value} {dv : Value} (A : Arv Z h a k ty z vs dv) (hz : z.toNatClampNeg = n) : Ar Z h a ty n (fun i => vs.getD i dv) := by
  obtain ⟨c, A, -, s, -, H, -⟩ := A
  exact ⟨c, A, s.trans hz, fun i hi => H i (by rw [s, hz]; exact hi)⟩
theorem ne_ar {C : String} {a0 : Array Value} {k : Nat} (F : Exa Z h a C) (wi : (Jvm.Cond.instantiable C k).before a0 Z = true) (G : Ar Z h b ty n f) : a ≠ b := by obtain ⟨c, A, -⟩ := G; exact ne_arr F wi A
end Facts
section Rules
variable {x : Cx} {Z : State} {own nm : String} {bytes : ByteArray} {ml : Nat} {rt : Option FieldType} {R : Room} {n0 : Nat} {Q : Post} {h : Heap} {k n : Nat} {pc : Nat} {L : Array Slot} {S rest : List Value} {a0 : Array Value} {a : Addr} {v : Value} {len i : Nat} {f : Nat → Value} {j : Int32}
theorem wp_aI (ok : Ok x Z own nm bytes ml rt R) (A : Ar Z h a .int len f) (hj : j.toInt = i) (hi : i < len) (hv : f i = v) (hd : decode bytes pc = .ok (.iaload, 1)) (hw : WP x n0 Q h k n (pc + 1) L (v :: rest)) : WP x n0 Q h k n pc L (.int j :: .ref a :: rest) := by
  obtain ⟨c, A, s, r⟩ := A
  exact wp_ldI ok A (by rw [s]; exact idx_in' hj hi) (by rw [(idx_of hj).1, ← hv]; exact r i hi) hd hw
theorem wp_aJ (ok : Ok x Z own nm bytes ml rt R) (A : Ar Z h a .long len f) (hj : j.toInt = i) (hi : i < len) (hv : f i = v) (hd : decode bytes pc = .ok (.laload, 1)) (hw : WP x n0 Q h k n (pc + 1) L (v :: rest)) : WP x n0 Q h k n pc L (.int j :: .ref a :: rest) := by
  obtain ⟨c, A, s, r⟩ := A
  exact wp_ldJ ok A (by rw [s]; exact idx_in' hj hi) (by rw [(idx_of hj).1, ← hv]; exact r i hi) hd hw
theorem wp_aB (ok : Ok x Z own nm bytes ml rt R) (A : Ar Z h a .byte len f) (hj : j.toInt = i) (hi : i < len) (hv : f i = v) (hd : decode bytes pc = .ok (.baload, 1)) (hw : WP x n0 Q h k n (pc + 1) L (v :: rest)) : WP x n0 Q h k n pc L (.int j :: .ref a :: rest) := by
  obtain ⟨c, A, s, r⟩ := A
  exact wp_ldB ok A (by rw [s]; exact idx_in' hj hi) (by rw [(idx_of hj).1, ← hv]; exact r i hi) hd hw
theorem wp_aZ (ok : Ok x Z own nm bytes ml rt R) (A : Ar Z h a .boolean len f) (hj : j.toInt = i) (hi : i < len) (hv : f i = v) (hd : decode bytes pc = .ok (.baload, 1)) (hw : WP x n0 Q h k n (pc + 1) L (v :: rest)) : WP x n0 Q h k n pc L (.int j :: .ref a :: rest) := by
  obtain ⟨c, A, s, r⟩ := A
  exact wp_ldZ ok A (by rw [s]; exact idx_in' hj hi) (by rw [(idx_of hj).1, ← hv]; exact r i hi) hd hw
theorem wp_alen {ty : FieldType} (ok : Ok x Z own nm bytes ml rt R) (A : Ar Z h a ty len f) (hd : decode bytes pc = .ok (.arraylength, 1)) (hw : WP x n0 Q h k n (pc + 1) L (.int (Int32.ofNat len) :: rest)) : WP x n0 Q h k n pc L (.ref a :: rest) := by
  obtain ⟨c, A, s, r⟩ := A
  refine wp_len ok A hd ?_
  rw [s]; exact hw
theorem wp_sI {z : Int32} (ok : Ok x Z own nm bytes ml rt R) (A : Ar Z h a .int len f) (hj : j.toInt = i) (hi : i < len) (hd : decode bytes pc = .ok (.iastore, 1)) (ha : n0 ≤ a)
    (hw : ∀ h', Wr h h' a i (.int z) → Ar Z h' a .int len (fun q => if q = i then .int z else f q) → WP x n0 Q h' k n (pc + 1) L rest) : WP x n0 Q h k n pc L (.int z :: .int j :: .ref a :: rest) := by
  have A0 := A
  obtain ⟨c, A, s, r⟩ := A
  refine wp_stI ok A (by rw [s]; exact idx_in' hj hi) hd ha ?_
  rw [(idx_of hj).1]
  exact fun h' W => hw h' W (A0.same W hi)
theorem wp_sJ {z : Int64} (ok : Ok x Z own nm bytes ml rt R) (A : Ar Z h a .long len f) (hj : j.toInt = i) (hi : i < len) (hd : decode bytes pc = .ok (.lastore, 1)) (ha : n0 ≤ a)
    (hw : ∀ h', Wr h h' a i (.long z) → Ar Z h' a .long len (fun q => if q = i then .long z else f q) → WP x n0 Q h' k n (pc + 1) L rest) : WP x n0 Q h k n pc L (.long z :: .int j :: .ref a :: rest) := by
  have A0 := A
  obtain ⟨c, A, s, r⟩ := A
  refine wp_stJ ok A (by rw [s]; exact idx_in' hj hi) hd ha ?_
  rw [(idx_of hj).1]
  exact fun h' W => hw h' W (A0.same W hi)
theorem wp_sB {z : Int32} (ok : Ok x Z own nm bytes ml rt R) (A : Ar Z h a .byte len f) (hj : j.toInt = i) (hi : i < len) (hd : decode bytes pc = .ok (.bastore, 1)) (ha : n0 ≤ a)
    (hw : ∀ h', Wr h h' a i (.int (nar .byte z)) → Ar Z h' a .byte len (fun q => if q = i then .int (nar .byte z) else f q) → WP x n0 Q h' k n (pc + 1) L rest) : WP x n0 Q h k n pc L (.int z :: .int j :: .ref a :: rest) := fun T locs X e N => by
  have A0 := A
  obtain ⟨c, A, s, r⟩ := A
  obtain ⟨T', h', X', e', W, st⟩ := stB X ok.1 ok.2.2.2.2.2.1 e A (by rw [s]; exact idx_in' hj hi) (g := mkF x.m pc L (.int z :: .int j :: .ref a :: rest)) rfl rfl (hb ok.2.1 hd)
  have W' := W
  rw [(idx_of hj).1] at W'
  obtain ⟨s₂, o, h1, r⟩ := hw h' W' (A0.same W' hi) T' _ X' e' (Fr.snoc X' N ha)
  exact ⟨s₂, o, st _ h1, r⟩
theorem wp_sZ {z : Int32} (ok : Ok x Z own nm bytes ml rt R) (A : Ar Z h a .boolean len f) (hj : j.toInt = i) (hi : i < len) (hd : decode bytes pc = .ok (.bastore, 1)) (ha : n0 ≤ a)
    (hw : ∀ h', Wr h h' a i (.int (nar .boolean z)) → Ar Z h' a .boolean len (fun q => if q = i then .int (nar .boolean z) else f q) → WP x n0 Q h' k n (pc + 1) L rest) : WP x n0 Q h k n pc L (.int z :: .int j :: .ref a :: rest) := fun T locs X e N => by
  have A0 := A
  obtain ⟨c, A, s, r⟩ := A
  obtain ⟨T', h', X', e', W, st⟩ := stZ X ok.1 ok.2.2.2.2.2.1 e A (by rw [s]; exact idx_in' hj hi) (g := mkF x.m pc L (.int z :: .int j :: .ref a :: rest)) rfl rfl (hb ok.2.1 hd)
  have W' := W
  rw [(idx_of hj).1] at W'
  obtain ⟨s₂, o, h1, r⟩ := hw h' W' (A0.same W' hi) T' _ X' e' (Fr.snoc X' N ha)
  exact ⟨s₂, o, st _ h1, r⟩
theorem wp_private {y y0 : MethodName} {cb : ByteArray} {cm : Nat} {cr : Option FieldType} {rm : Room} {index : Nat} {argsL : List Value} {Q' : Post} {ps : List FieldType} {C C0 : String} (ok : Ok x Z own nm bytes ml rt R) (w1 : (Jvm.Cond.methodLink own index y).before a0 Z = true) (w5 : (Jvm.Cond.privateMethod y).before a0 Z = true) (w6 : (Jvm.Cond.selects C0 y0 y0).before a0 Z = true) (hy0 : y0.cls = y.cls) (w2 : (Jvm.Cond.instanceMethod y).before a0 Z = true) (w3 : (Jvm.Cond.initialized y.cls).before a0 Z = true) (w4 : (Jvm.Cond.code y cb cm cr).before a0 Z = true)
    (hy : y.cls ≠ "java/lang/invoke/MethodHandle" ∧ y.cls ≠ "java/lang/invoke/VarHandle") (E : Exa Z h a C) (Cn : Con x.l Z y cb cm cr rm (Value.ref a :: argsL).toArray h n0 Q' []) (pd : parseMethodDescriptor y.desc = some ⟨ps, cr⟩) (hlen : argsL.length = ps.length) (hst : S = argsL.reverse ++ .ref a :: rest) (hL : L.size = ml) (hd : decode bytes pc = .ok (.invokevirtual index, 3))
    (hf : rm.frames + 1 ≤ R.frames) (hl : (rest.map fun v => v.category).sum + (cm + 11) + rm.locals ≤ R.locals) (hk : k + rm.cells ≤ R.cells) (hn : n + rm.slots ≤ R.slots)
    (hw : ∀ v h', Q' v h' → WP x n0 Q h' (k + rm.cells) (n + rm.slots) (pc + 3) L (v.toList ++ rest)) : WP x n0 Q h k n pc L S := fun T locs X e N => by
  have hZ := ok.2.2.2.2.2.1
  have hR := ok.2.2.2.2.2.2.2.2
  obtain ⟨cell, q1, q2⟩ := E.cell
  have hpr : x.s.PrivateAt y := Cond.privateMethod_at (mvP hZ w5 (args := #[]))
  have hinst : (Jvm.Cond.instanceMethod y).before x.args x.s = true := mvT hZ w2
  have hsel : (Jvm.Cond.selects y.cls y y).before x.args x.s = true := by
    obtain ⟨c2, r2, m2, -, -, q3, -, kP, hkP, hkPi⟩ := Cond.selects_spec (mvT hZ w6 (args := x.args) (s := x.s))
    exact selects_self_of_private (hy0 ▸ findClass_of_methodNamed q3) hkP hkPi hpr hinst hy
  obtain ⟨v, _, ⟨T', L2, k2, n2⟩, -, X', ⟨Lc, hQ, l1, y1, z1⟩, st⟩ := X.privateBack ok.1 (y := y) ok.2.2.2.1 (mvT hZ w1) hinst hsel hpr (mvT hZ w4) hy (backOf (W := (rest.map fun v => v.category).sum) (Q := fun v h L => Q' v h ∧ Fr n0 L) Cn hZ w4 w3 (by rw [hR]; exact hf) (by rw [hR]; exact hl)) (g := mkF x.m pc L S) rfl (by show L.size = _; rw [ok.2.2.1]; exact hL) (Steps.refl _) (a := a) (cell := cell) (by rw [e]; exact q1) q2 (argsL := argsL) (rest := rest) (lenOf pd hlen) hst (by show 2 * 0 + _ ≤ _; omega) (hb ok.2.1 hd) (fun _ _ => ⟨rfl, e, by rw [hR]; exact hk, by rw [hR]; exact hn⟩)
  dsimp only [Pt.U, Pt.locs, Pt.cells, Pt.slots] at X' l1 y1 z1 st hQ
  subst l1 y1 z1
  obtain ⟨s₂, o, h1, r⟩ := hw v _ hQ.1 T' _ X' rfl (Fr.app N hQ.2)
  exact ⟨s₂, o, st.trans h1, r⟩
theorem wp_ldcF {b : UInt32} {index : Nat} (ok : Ok x Z own nm bytes ml rt R) (w : (Jvm.Cond.constantFloat own index b).before a0 Z = true) (hd : decode bytes pc = .ok (.ldc index, 2)) (hw : WP x n0 Q h k n (pc + 2) L (.float b :: S)) : WP x n0 Q h k n pc L S :=
  wp_steps (fun T locs target X e hr => X.ldcFloatC ok.1 ok.2.2.2.1 (mvT ok.2.2.2.2.2.1 w) (g := mkF x.m pc L S) rfl (hb ok.2.1 hd) target hr) hw
theorem wp_nA {aty : ArrayType} {z : Int32} {cap : Nat} (ok : Ok x Z own nm bytes ml rt R) (w : (Jvm.Cond.arrayClass (newarray.typeOf aty)).before a0 Z = true) (hd : decode bytes pc = .ok (.newarray aty, 2)) (hz : z.toInt = cap) (hb8 : cap * 8 ≤ 536870912) (hk : k + 1 ≤ R.cells) (hn : n + cap ≤ R.slots)
    (hw : ∀ h' a, a = h.size → Ext h h' → Ar Z h' a (newarray.typeOf aty) cap (fun _ => defaultValue (newarray.typeOf aty)) → WP x n0 Q h' (k + 1) (n + cap) (pc + 2) L (.ref a :: rest)) : WP x n0 Q h k n pc L (.int z :: rest) :=
  wp_newA ok w hd (idx_of hz).2 (Nat.le_of_eq (idx_of hz).1) hb8 hk hn fun h' a cA e E A => hw h' a e E (Ar.new A (idx_of hz).1)
end Rules
end Jvm.OwnW
namespace Jvm.OwnW
open Jvm.RoadKit
def lst (vs : List Value) : Nat → Value := fun i => vs.getD i .null
theorem lst_set {Z : State} {h : Heap} {a : Addr} {ty : ClassFile.FieldType} {n i : Nat} {v : Value} {vs vs' : List Value} (A : Ar Z h a ty n (fun q => if q = i then v else lst vs q)) (hn : vs.length = n) (hi : i < n) (e : vs.set i v = vs') : Ar Z h a ty n (lst vs') := A.cong fun q hq => by
  subst e
  by_cases p : q = i
  · subst p; rw [if_pos rfl]; simp [lst, hn, hi]
  · rw [if_neg p]; simp only [lst, List.getD_eq_getElem?_getD]; rw [List.getElem?_set_ne (Ne.symm p)]
theorem lst_new {Z : State} {h : Heap} {a : Addr} {ty : ClassFile.FieldType} {n : Nat} {v : Value} {vs : List Value} (A : Ar Z h a ty n (fun _ => v)) (e : List.replicate n v = vs) : Ar Z h a ty n (lst vs) := A.cong fun q hq => by
  subst e; simp [lst, hq]
end Jvm.OwnW
namespace Jvm.OwnW
open Sem ClassFile Op Lib Jvm.Free Jvm.Stand Jvm.LawKit Jvm.RoadKit Jvm.Free.XT
theorem wp_copy {x : Cx} {Z : State} {own nm : String} {bytes : ByteArray} {ml : Nat} {rt : Option FieldType} {R : Room} {n0 : Nat} {Q : Post} {h : Heap} {k n : Nat} {pc : Nat} {L : Array Slot} {rest : List Value} {a0 : Array Value} {a b : Addr} {ty : FieldType} {na nb mm : Nat} {f g : Nat → Value} {index : Nat} {z : Int32}
    (ok : Ok x Z own nm bytes ml rt R) (w1 : (Jvm.Cond.methodLink own index Jvm.Stand.acN).before a0 Z = true) (w2 : (Jvm.Cond.native Jvm.Stand.acN).before a0 Z = true) (w3 : (Jvm.Cond.static Jvm.Stand.acN).before a0 Z = true) (w4 : (Jvm.Cond.initialized "java/lang/System").before a0 Z = true)
    (A : Ar Z h a ty na f) (B : Ar Z h b ty nb g) (hty : refKind ty = false) (fa : ∀ i, i < na → fits ty (f i) = true) (fb : ∀ i, i < nb → fits ty (g i) = true) (la : na < 2 ^ 31) (lb : nb < 2 ^ 31) (hz : z.toInt = mm) (h1 : mm ≤ na) (h2 : mm ≤ nb) (ge : n0 ≤ b) (hL : L.size = ml)
    (hd : decode bytes pc = .ok (.invokestatic index, 3)) (hf : 1 ≤ R.frames) (hlo : (rest.map fun v => v.category).sum + 18 ≤ R.locals)
    (hw : ∀ h', Keep h h' [b] → Ar Z h' b ty nb (fun i => if i < mm then f i else g i) → WP x n0 Q h' k n (pc + 3) L rest) : WP x n0 Q h k n pc L (.int z :: .int 0 :: .ref b :: .int 0 :: .ref a :: rest) := fun T locs X e N => by
  obtain ⟨ka, A'⟩ := A.toArv la fa .null
  obtain ⟨kb, B'⟩ := B.toArv lb fb .null
  have ea : (Int32.ofNat na).toNatClampNeg = na := (idx_of (len_toInt la)).1
  have eb : (Int32.ofNat nb).toNatClampNeg = nb := (idx_of (len_toInt lb)).1
  have ez := (idx_of hz).1
  have e0 : (0 : Int32).toNatClampNeg = 0 := rfl
  obtain ⟨T', h', L', X', e', N', K, C, st⟩ := cpA X ok.1 ok.2.2.2.2.2.1 ok.2.2.2.1 w1 w2 w3 w4 e A' B' (Or.inl ⟨rfl, hty⟩) (sp := 0) (dp := 0) (nn := z) (by decide) (by decide) (idx_of hz).2 (by rw [e0, ez, ea]; omega) (by rw [e0, ez, eb]; omega) rfl (by rw [e0, ez]; simpa using h2) N ge
    (g := mkF x.m pc L (.int z :: .int 0 :: .ref b :: .int 0 :: .ref a :: rest)) rfl (by show L.size = _; rw [ok.2.2.1]; exact hL) rfl (hb ok.2.1 hd) (by rw [ok.2.2.2.2.2.2.2.2]; exact hf) (W := (rest.map fun v => v.category).sum) (by show 2 * 0 + _ ≤ _; omega) (by rw [ok.2.2.2.2.2.2.2.2]; exact hlo)
  have D := (Ar.ofArv C eb).cong (g := fun i => if i < mm then f i else g i) fun i hi => by
    rw [e0, ez]
    simp only [Nat.zero_add, List.take_zero, List.nil_append, List.getD_eq_getElem?_getD]
    by_cases q : i < mm
    · rw [if_pos q, List.getElem?_append_left (by simpa using q)]
      simp [q, show i < na by omega]
    · rw [if_neg q, List.getElem?_append_right (by simpa using Nat.le_of_not_lt q)]
      simp [show mm + (i - mm) = i by omega, hi]
  obtain ⟨s₂, o, g1, r⟩ := hw h' K D T' L' X' e' N'
  exact ⟨s₂, o, st _ g1, r⟩
end Jvm.OwnW
namespace Jvm.Pilot.@@N@@
open Jvm Jvm.ClassFile Sem Op Lib Jvm.Free Jvm.Stand Jvm.LawKit Jvm.RoadKit Bundle Jvm.OwnW Jvm.Free.XT Jvm.Pilot.@@N@@.Jvm.D
def BX (Z : State) (h : Heap) (a : Addr) (n fl : Nat) (bl : Int64) (g : Nat → Int64) (m0 : Nat) : Prop :=
  Exa Z h a "com/example/attestore/attestore/server/BlockIndex" ∧ ∃ (ad : Addr) (f : Nat → Value), Fld Z h a "com/example/attestore/attestore/server/BlockIndex" "starts" "[J" (.ref ad) ∧ Fld Z h a "com/example/attestore/attestore/server/BlockIndex" "files" "I" (.int (Int32.ofNat fl)) ∧ Fld Z h a "com/example/attestore/attestore/server/BlockIndex" "blocks" "J" (.long bl) ∧ Ar Z h ad .long n f ∧ (∀ i, i < n → ∃ z, f i = .long z) ∧ (∀ i, i < fl → f i = .long (g i)) ∧ m0 ≤ ad
theorem own_T {n j : Nat} {f : Nat → Value} {w : Int64} (T : ∀ i, i < n → ∃ z, f i = .long z) : ∀ i, i < n → ∃ z, (if i = j then Value.long w else f i) = .long z := fun i hi => by
  by_cases e : i = j
  · exact ⟨w, by rw [if_pos e]⟩
  · obtain ⟨z, q⟩ := T i hi; exact ⟨z, by rw [if_neg e]; exact q⟩
theorem own_G {fl : Nat} {f : Nat → Value} {g : Nat → Int64} {w : Int64} (G : ∀ i, i < fl → f i = .long (g i)) : ∀ i, i < fl + 1 → (if i = fl then Value.long w else f i) = .long (if i = fl then w else g i) := fun i hi => by
  by_cases e : i = fl
  · rw [if_pos e, if_pos e]
  · rw [if_neg e, if_neg e]; exact G i (by omega)
theorem own_fit {n : Nat} {f : Nat → Value} (T : ∀ i, i < n → ∃ z, f i = .long z) : ∀ i, i < n → fits .long (f i) = true := fun i hi => by obtain ⟨z, q⟩ := T i hi; rw [q]; rfl
theorem own_nat {k : Nat} (h : k ≤ 32) : (Int32.ofNat k).toInt = (k : Int) := len_toInt (by omega)
theorem own_srt (g : Nat → Int64) (N : Nat) (x y : Int64) (hx : 1 ≤ x.toInt) (hxy : x.toInt ≤ y.toInt) (vl : ∀ i, i < N → g i = 1) (v0 : g N = 1) (v1 : g (N + 1) = x) (v2 : g (N + 2) = y) : ∀ k, k < N + 3 → (g k).toInt = (if k ≤ N then 1 else if k = N + 1 then x.toInt else y.toInt) := fun k hk => by
  by_cases q : k < N
  · rw [vl k q, if_pos (by omega)]; rfl
  · by_cases q2 : k = N
    · rw [q2, v0, if_pos (Nat.le_refl N)]; rfl
    · by_cases q3 : k = N + 1
      · rw [q3, v1, if_neg (by omega), if_pos rfl]
      · have q4 : k = N + 2 := by omega
        rw [q4, v2, if_neg (by omega), if_neg (by omega)]
theorem own_loc (g : Nat → Int64) (N r : Nat) (x y q : Int64) (hx : 1 ≤ x.toInt) (hxy : x.toInt ≤ y.toInt) (vl : ∀ i, i < N → g i = 1) (v0 : g N = 1) (v1 : g (N + 1) = x) (v2 : g (N + 2) = y) (hr : r < N + 3) (h1 : (g r).toInt ≤ q.toInt) (h2 : ∀ i, r < i → i < N + 3 → q.toInt < (g i).toInt) (hq : 1 ≤ q.toInt) :
    (q < x → r = N ∧ g r = 1) ∧ (¬ q < x → q < y → r = N + 1 ∧ g r = x) ∧ (¬ q < y → r = N + 2 ∧ g r = y) := by
  have val := own_srt g N x y hx hxy vl v0 v1 v2
  have e1 := val r hr
  simp only [Int64.lt_iff_toInt_lt]
  have b1 : r < N + 2 → q.toInt < y.toInt := fun p => by have := h2 (N + 2) p (by omega); rw [v2] at this; exact this
  have b2 : r < N + 1 → q.toInt < x.toInt := fun p => by have := h2 (N + 1) p (by omega); rw [v1] at this; exact this
  have b3 : ¬ r < N := fun p => by have := h2 N p (by omega); rw [v0] at this; have o : (1 : Int64).toInt = 1 := rfl; omega
  have c1 : r = N + 1 → x.toInt ≤ q.toInt := fun p => by rw [p, v1] at h1; exact h1
  have c2 : r = N + 2 → y.toInt ≤ q.toInt := fun p => by rw [p, v2] at h1; exact h1
  refine ⟨fun p => ?_, fun p p2 => ?_, fun p => ?_⟩
  · have : r = N := by omega
    exact ⟨this, by rw [this]; exact v0⟩
  · have : r = N + 1 := by omega
    exact ⟨this, by rw [this]; exact v1⟩
  · have : r = N + 2 := by omega
    exact ⟨this, by rw [this]; exact v2⟩
theorem own_T2 {f : Nat → Value} (T : ∀ i, i < 16 → ∃ z, f i = .long z) : ∀ i, i < 32 → ∃ z, (if i < 16 then f i else Value.long (0 : Int64)) = .long z := fun i hi => by
  by_cases e : i < 16
  · obtain ⟨z, q⟩ := T i e; exact ⟨z, by rw [if_pos e]; exact q⟩
  · exact ⟨0, by rw [if_neg e]⟩

def k_min : List (Nat × Value) := []
def Q_min (Z : State) (p : Int32) (q : Int32) (h0 : Heap) : Post := fun v h => v = some (.int (if q < p then q else p)) ∧ h0 = h
theorem own_min_1 (p : Int32) (q : Int32) (s10_0 : Int32) (h_s10_0 : s10_0 = (if q < p then q else p)) : s10_0 = (if q < p then q else p) := by
  exact h_s10_0
theorem pn_min : plainFor (⟨"java/lang/Math", "min", "(II)I"⟩ : MethodName) = true := by first | (refine plainFor_of_name ?_; simp [plainName, overriddenIn]; done) | decide +kernel
set_option maxRecDepth 65536 in
set_option maxHeartbeats 40000000 in
theorem c_min (l : Launch) (Z : State) (a0 : Array Value) (hw : ∀ d ∈ tables_1, d.before a0 Z = true) (p : Int32) (q : Int32) (h0 : Heap) (n0 : Nat) (Z0 : n0 ≤ h0.size) :
    Con l Z (⟨"java/lang/Math", "min", "(II)I"⟩ : MethodName) jdk_29_method_69_code 2 (some .int) ({ frames := 0, cells := 0, slots := 0, locals := 0 } : Room) #[.int p, .int q] h0 n0 (Q_min Z p q h0) [] := by
  refine con_of_wp pn_min (L0 := #[.val (.int p), .val (.int q)]) (fun m => by first | (simp [entryFrame, mkF, argsToLocals, Value.category]; done) | rfl) (fun X hl ok => ?_)
  subst hl
  have hK : Konst Z a0 "java/lang/Math" k_min := trivial
  refine wp_run ok hK (B := [(0, .iload_n 0, false), (1, .iload_n 1, false)]) (by decide +kernel) (ps := []) (pc' := 2) (L' := #[.val (.int p), .val (.int q)]) (S' := [.int q, .int p]) rfl trivial ?_
  have J10_2 : ∀ (s10_0 : Int32) (h_s10_0 : s10_0 = (if q < p then q else p)), WP X n0 (Q_min Z p q h0) h0 0 0 10 #[.val (.int p), .val (.int q)] [.int s10_0] := by
    intro s10_0 h_s10_0
    refine wp_retI ok (by decide +kernel) (by decide) (by decide) ?_
    exact ⟨congrArg (fun z => some (Value.int z)) (own_min_1 p q s10_0 h_s10_0), rfl⟩
  by_cases c1 : q < p
  · refine wp_run ok hK (B := [(2, .if_icmp .gt 7, true), (9, .iload_n 1, false)]) (by decide +kernel) (ps := [Op.if_icmp.holds .gt p q = true]) (pc' := 10) (L' := #[.val (.int p), .val (.int q)]) (S' := [.int q]) rfl ⟨(XT.ii_gt_t c1), trivial⟩ ?_
    exact J10_2 _ (by rw [if_pos c1])
  · refine wp_run ok hK (B := [(2, .if_icmp .gt 7, false), (5, .iload_n 0, false), (6, .goto 4, false)]) (by decide +kernel) (ps := [Op.if_icmp.holds .gt p q = false]) (pc' := 10) (L' := #[.val (.int p), .val (.int q)]) (S' := [.int p]) rfl ⟨(XT.ii_gt_f c1), trivial⟩ ?_
    exact J10_2 _ (by rw [if_neg c1])
def k_cpj : List (Nat × Value) := []
def Q_cpj (Z : State) (b : Addr) (f : Nat → Value) (h0 : Heap) : Post := fun v h => ∃ r : Addr, v = some (.ref r) ∧ Keep h0 h [] ∧ h0.size ≤ r ∧ Ar Z h r .long 32 (fun i => if i < 16 then f i else .long (0 : Int64))
theorem own_cpj_1 (z25 : Int32) (h_z25 : z25 = (if (32 : Int32) < (16 : Int32) then (32 : Int32) else (16 : Int32))) : z25.toInt = ((16 : Nat) : Int) := by
  rw [h_z25]; decide
theorem pn_cpj : plainFor (⟨"java/util/Arrays", "copyOf", "([JI)[J"⟩ : MethodName) = true := by first | (refine plainFor_of_name ?_; simp [plainName, overriddenIn]; done) | decide +kernel
set_option maxRecDepth 65536 in
set_option maxHeartbeats 40000000 in
theorem c_cpj (l : Launch) (Z : State) (a0 : Array Value) (hw : ∀ d ∈ tables_1, d.before a0 Z = true) (b : Addr) (f : Nat → Value) (h0 : Heap) (n0 : Nat) (Z0 : n0 ≤ h0.size) (A_b : Ar Z h0 b .long 16 f) (T : ∀ i, i < 16 → ∃ z, f i = .long z) :
    Con l Z (⟨"java/util/Arrays", "copyOf", "([JI)[J"⟩ : MethodName) jdk_65_method_124_code 3 (some (.array .long)) ({ frames := 1, cells := 1, slots := 32, locals := 18 } : Room) #[(.ref b), .int (32 : Int32)] h0 n0 (Q_cpj Z b f h0) [] := by
  refine con_of_wp pn_cpj (L0 := #[.val ((.ref b)), .val (.int (32 : Int32)), .unset]) (fun m => by first | (simp [entryFrame, mkF, argsToLocals, Value.category]; done) | rfl) (fun X hl ok => ?_)
  subst hl
  have hK : Konst Z a0 "java/util/Arrays" k_cpj := trivial
  have K0 : Keep h0 h0 [] := Keep.refl _ _
  refine wp_run ok hK (B := [(0, .iload_n 1, false), (1, .aload_n 0, false)]) (by decide +kernel) (ps := []) (pc' := 2) (L' := #[.val ((.ref b)), .val (.int (32 : Int32)), .unset]) (S' := [(.ref b), .int (32 : Int32)]) rfl trivial ?_
  refine wp_alen ok A_b (by decide +kernel) ?_
  show WP X n0 (Q_cpj Z b f h0) h0 0 0 3 #[.val ((.ref b)), .val (.int (32 : Int32)), .unset] [.int (16 : Int32), .int (32 : Int32)]
  refine wp_run ok hK (B := [(3, .if_icmp .ne 11, true), (14, .iload_n 1, false)]) (by decide +kernel) (ps := [Op.if_icmp.holds .ne (32 : Int32) (16 : Int32) = true]) (pc' := 15) (L' := #[.val ((.ref b)), .val (.int (32 : Int32)), .unset]) (S' := [.int (32 : Int32)]) rfl ⟨(XT.ii_ne_t (by decide)), trivial⟩ ?_
  refine wp_nA ok (aty := .long) (wd hw 10 rfl) (by decide +kernel) (cap := 32) (by rfl) (by decide) (by decide) (by decide) ?_
  intro h1 a2 ea3 X4 A5
  have A7 := A_b.ext X4
  have Z8 : n0 ≤ h1.size := Nat.le_trans Z0 X4.1
  have K9 := K0.ext X4
  have A6 : Ar Z h1 a2 .long 32 (fun _ => .long (0 : Int64)) := A5
  have g10 : n0 ≤ a2 := by rw [ea3]; exact Z0
  have g11 : h0.size ≤ a2 := by rw [ea3]; exact K0.1
  have N12 : b ≠ a2 := ne_new (A_b.lt) ea3
  refine wp_run ok hK (B := [(17, .astore_n 2, false), (18, .aload_n 0, false), (19, .iconst 0, false), (20, .aload_n 2, false), (21, .iconst 0, false), (22, .aload_n 0, false)]) (by decide +kernel) (ps := []) (pc' := 23) (L' := #[.val ((.ref b)), .val (.int (32 : Int32)), .val ((.ref a2))]) (S' := [(.ref b), .int (0 : Int32), (.ref a2), .int (0 : Int32), (.ref b)]) rfl trivial ?_
  refine wp_alen ok A7 (by decide +kernel) ?_
  show WP X n0 (Q_cpj Z b f h0) h1 1 32 24 #[.val ((.ref b)), .val (.int (32 : Int32)), .val ((.ref a2))] [.int (16 : Int32), .int (0 : Int32), (.ref a2), .int (0 : Int32), (.ref b)]
  refine wp_run ok hK (B := [(24, .iload_n 1, false)]) (by decide +kernel) (ps := []) (pc' := 25) (L' := #[.val ((.ref b)), .val (.int (32 : Int32)), .val ((.ref a2))]) (S' := [.int (32 : Int32), .int (16 : Int32), .int (0 : Int32), (.ref a2), .int (0 : Int32), (.ref b)]) rfl trivial ?_
  refine wp_static ok (wd hw 76 rfl) (wd hw 77 rfl) (wd hw 78 rfl) (wd hw 79 rfl) (by decide) (argsL := [.int (16 : Int32), .int (32 : Int32)]) (rest := [.int (0 : Int32), (.ref a2), .int (0 : Int32), (.ref b)]) (c_min _ Z a0 hw (16 : Int32) (32 : Int32) h1 n0 Z8 ) (ps := [.int, .int]) (by decide +kernel) (by rfl) (by rfl) (by rfl) (by decide +kernel) (by decide) (Nat.le_of_ble_eq_true rfl) (by decide) (by decide) ?_
  intro r13 h14 q15
  obtain ⟨e16, rfl⟩ := q15
  obtain ⟨z25, h_z25⟩ : ∃ z : Int32, z = (if (32 : Int32) < (16 : Int32) then (32 : Int32) else (16 : Int32)) := ⟨_, rfl⟩
  have e16' := e16.trans (show _ = some (Value.int z25) by rw [h_z25])
  subst e16'
  show WP X n0 (Q_cpj Z b f h0) h1 1 32 28 #[.val ((.ref b)), .val (.int (32 : Int32)), .val ((.ref a2))] [.int z25, .int (0 : Int32), (.ref a2), .int (0 : Int32), (.ref b)]
  refine wp_copy ok (wd hw 80 rfl) (wd hw 83 rfl) (wd hw 81 rfl) (wd hw 82 rfl) A7 A6 rfl (own_fit T) (fun i hi => rfl) (by decide) (by decide) (mm := 16) (own_cpj_1 z25 h_z25) (by decide) (by decide) g10 (by rfl) (by decide +kernel) (by decide) (by decide) ?_
  intro h17 K18 A19
  have A20 := A7.keep K18 (by simp only [List.mem_cons, List.not_mem_nil, or_false, not_or]; exact N12)
  have Z21 : n0 ≤ h17.size := Nat.le_trans Z8 K18.1
  have K22 := K9.trans K18 (allS (P := fun z => z ∈ [] ∨ h0.size ≤ z) (Or.inr g11) all0)
  refine wp_run ok hK (B := [(31, .aload_n 2, false)]) (by decide +kernel) (ps := []) (pc' := 32) (L' := #[.val ((.ref b)), .val (.int (32 : Int32)), .val ((.ref a2))]) (S' := [(.ref a2)]) rfl trivial ?_
  refine wp_retA ok (by rfl) (by rfl) (by decide +kernel) (by decide) (by decide) ?_
  exact ⟨a2, rfl, K22, g11, A19⟩
def k_ini : List (Nat × Value) := []
def Q_ini (Z : State) (a : Addr) (h0 : Heap) : Post := fun v h => v = none ∧ h0.size ≤ h.size ∧ BX Z h a 16 0 (0 : Int64) (fun _ => 0) h0.size
theorem pn_ini : plainFor (⟨"com/example/attestore/attestore/server/BlockIndex", "<init>", "()V"⟩ : MethodName) = true := by first | (refine plainFor_of_name ?_; simp [plainName, overriddenIn]; done) | decide +kernel
set_option maxRecDepth 65536 in
set_option maxHeartbeats 40000000 in
theorem c_ini (l : Launch) (Z : State) (a0 : Array Value) (hw : ∀ d ∈ tables_1, d.before a0 Z = true) (a : Addr) (h0 : Heap) (n0 : Nat) (Z0 : n0 ≤ h0.size) (E_a : Exa Z h0 a "com/example/attestore/attestore/server/BlockIndex") (F_a_starts : Fld Z h0 a "com/example/attestore/attestore/server/BlockIndex" "starts" "[J" (.null)) (F_a_files : Fld Z h0 a "com/example/attestore/attestore/server/BlockIndex" "files" "I" (.int (0 : Int32))) (F_a_blocks : Fld Z h0 a "com/example/attestore/attestore/server/BlockIndex" "blocks" "J" (.long (0 : Int64))) (g_a : n0 ≤ a) :
    Con l Z (⟨"com/example/attestore/attestore/server/BlockIndex", "<init>", "()V"⟩ : MethodName) prog_59_method_1_code 1 (none : Option FieldType) ({ frames := 1, cells := 1, slots := 16, locals := 12 } : Room) #[(.ref a)] h0 n0 (Q_ini Z a h0) [] := by
  refine con_of_wp pn_ini (L0 := #[.val ((.ref a))]) (fun m => by first | (simp [entryFrame, mkF, argsToLocals, Value.category]; done) | rfl) (fun X hl ok => ?_)
  subst hl
  have hK : Konst Z a0 "com/example/attestore/attestore/server/BlockIndex" k_ini := trivial
  have K0 : Keep h0 h0 [a] := Keep.refl _ _
  refine wp_run ok hK (B := [(0, .aload_n 0, false)]) (by decide +kernel) (ps := []) (pc' := 1) (L' := #[.val ((.ref a))]) (S' := [(.ref a)]) rfl trivial ?_
  refine wp_initO ok (wd hw 7 rfl) (wd hw 8 rfl) (wd hw 9 rfl) (by rfl) (by decide +kernel) (by decide) (Nat.le_of_ble_eq_true rfl) ?_
  refine wp_run ok hK (B := [(4, .aload_n 0, false), (5, .bipush 16, false)]) (by decide +kernel) (ps := []) (pc' := 7) (L' := #[.val ((.ref a))]) (S' := [.int (16 : Int32), (.ref a)]) rfl trivial ?_
  refine wp_nA ok (aty := .long) (wd hw 10 rfl) (by decide +kernel) (cap := 16) (by rfl) (by decide) (by decide) (by decide) ?_
  intro h1 a2 ea3 X4 A5
  have E7 := E_a.ext X4
  have F8 := F_a_starts.ext X4
  have F9 := F_a_files.ext X4
  have F10 := F_a_blocks.ext X4
  have Z11 : n0 ≤ h1.size := Nat.le_trans Z0 X4.1
  have K12 := K0.ext X4
  have A6 : Ar Z h1 a2 .long 16 (fun _ => .long (0 : Int64)) := A5
  have g13 : n0 ≤ a2 := by rw [ea3]; exact Z0
  have g14 : h0.size ≤ a2 := by rw [ea3]; exact K0.1
  have N15 : a ≠ a2 := ne_new (E_a.lt) ea3
  refine wp_putF ok (wd hw 11 rfl) F8 E7 (Or.inl (wd hw 12 rfl)) (wd hw 2 rfl) (ty := (.array .long)) (by decide) rfl rfl (by decide +kernel) g_a ?_
  intro h16 W17
  have F18 := F8.same W17
  have F19 := F9.other W17 (Or.inr (slot_ne (C := "com/example/attestore/attestore/server/BlockIndex") (a0 := a0) (Or.inl (wd hw 19 rfl)) (Or.inl (wd hw 12 rfl)) (by decide +kernel) (t := .int) (t' := (.array .long)) (by decide +kernel) (by decide +kernel)))
  have F20 := F10.other W17 (Or.inr (slot_ne (C := "com/example/attestore/attestore/server/BlockIndex") (a0 := a0) (Or.inl (wd hw 21 rfl)) (Or.inl (wd hw 12 rfl)) (by decide +kernel) (t := .long) (t' := (.array .long)) (by decide +kernel) (by decide +kernel)))
  have A21 := A6.other W17 (Ne.symm N15)
  have E22 := E7.wr W17
  have Z23 : n0 ≤ h16.size := by rw [W17.size]; exact Z11
  have K24 := K12.wr W17 (Or.inl (by simp))
  refine wp_retV ok (by decide +kernel) (by decide) (by decide) ?_
  exact ⟨rfl, K24.1, E22, a2, _, F18, F19, F20, A21, fun i hi => ⟨0, rfl⟩, fun i hi => absurd hi (Nat.not_lt_zero i), g14⟩
def k_ad1 : List (Nat × Value) := []
def Q_ad1 (Z : State) (a : Addr) (u : Int64) (n : Nat) (fl : Nat) (bl : Int64) (g : Nat → Int64) (m0 : Nat) (h0 : Heap) : Post := fun v h => v = none ∧ h0.size ≤ h.size ∧ ∃ g2 : Nat → Int64, BX Z h a n (fl + 1) (bl + u) g2 m0 ∧ g2 fl = bl + (1 : Int64) ∧ ∀ i, i < fl → g2 i = g i
theorem own_ad1_1 (u : Int64) (n : Nat) (fl : Nat) (bl : Int64) (m0 : Nat) (p1 : fl < n) (p2 : n ≤ 32) : ¬ ((Int32.ofNat fl) = (Int32.ofNat n)) := by
  intro q; rw [← Int32.toInt_inj, own_nat (by omega), own_nat (by omega)] at q; omega
theorem pn_ad1 : plainFor (⟨"com/example/attestore/attestore/server/BlockIndex", "add", "(J)V"⟩ : MethodName) = true := by first | (refine plainFor_of_name ?_; simp [plainName, overriddenIn]; done) | decide +kernel
set_option maxRecDepth 65536 in
set_option maxHeartbeats 40000000 in
theorem c_ad1 (l : Launch) (Z : State) (a0 : Array Value) (hw : ∀ d ∈ tables_1, d.before a0 Z = true) (a : Addr) (u : Int64) (n : Nat) (fl : Nat) (bl : Int64) (g : Nat → Int64) (m0 : Nat) (h0 : Heap) (n0 : Nat) (Z0 : n0 ≤ h0.size) (B0 : BX Z h0 a n fl bl g m0) (hm : n0 ≤ m0) (g_a : n0 ≤ a) (p1 : fl < n) (p2 : n ≤ 32) :
    Con l Z (⟨"com/example/attestore/attestore/server/BlockIndex", "add", "(J)V"⟩ : MethodName) prog_59_method_2_code 3 (none : Option FieldType) ({ frames := 0, cells := 0, slots := 0, locals := 0 } : Room) #[(.ref a), .long u] h0 n0 (Q_ad1 Z a u n fl bl g m0 h0) [] := by
  refine con_of_wp pn_ad1 (L0 := #[.val ((.ref a)), .val (.long u), .second]) (fun m => by first | (simp [entryFrame, mkF, argsToLocals, Value.category]; done) | rfl) (fun X hl ok => ?_)
  subst hl
  have hK : Konst Z a0 "com/example/attestore/attestore/server/BlockIndex" k_ad1 := trivial
  have B1 := B0
  obtain ⟨E_a, ad, f, F1, F2, F3, A_ad, T, G, ga⟩ := B1
  have g_ad : n0 ≤ ad := Nat.le_trans hm ga
  have ne_a_ad : a ≠ ad := ne_ar E_a (wd hw 2 rfl) A_ad
  have K0 : Keep h0 h0 [a, ad] := Keep.refl _ _
  refine wp_run ok hK (B := [(0, .aload_n 0, false)]) (by decide +kernel) (ps := []) (pc' := 1) (L' := #[.val ((.ref a)), .val (.long u), .second]) (S' := [(.ref a)]) rfl trivial ?_
  refine wp_getF ok (wd hw 18 rfl) F2 (by decide +kernel) ?_
  refine wp_run ok hK (B := [(4, .aload_n 0, false)]) (by decide +kernel) (ps := []) (pc' := 5) (L' := #[.val ((.ref a)), .val (.long u), .second]) (S' := [(.ref a), .int (Int32.ofNat fl)]) rfl trivial ?_
  refine wp_getF ok (wd hw 11 rfl) F1 (by decide +kernel) ?_
  refine wp_alen ok A_ad (by decide +kernel) ?_
  refine wp_run ok hK (B := [(9, .if_icmp .ne 21, true), (30, .aload_n 0, false)]) (by decide +kernel) (ps := [Op.if_icmp.holds .ne (Int32.ofNat fl) (Int32.ofNat n) = true]) (pc' := 31) (L' := #[.val ((.ref a)), .val (.long u), .second]) (S' := [(.ref a)]) rfl ⟨(XT.ii_ne_t (own_ad1_1 u n fl bl m0 p1 p2)), trivial⟩ ?_
  refine wp_getF ok (wd hw 11 rfl) F1 (by decide +kernel) ?_
  refine wp_run ok hK (B := [(34, .aload_n 0, false)]) (by decide +kernel) (ps := []) (pc' := 35) (L' := #[.val ((.ref a)), .val (.long u), .second]) (S' := [(.ref a), (.ref ad)]) rfl trivial ?_
  refine wp_getF ok (wd hw 18 rfl) F2 (by decide +kernel) ?_
  refine wp_run ok hK (B := [(38, .aload_n 0, false)]) (by decide +kernel) (ps := []) (pc' := 39) (L' := #[.val ((.ref a)), .val (.long u), .second]) (S' := [(.ref a), .int (Int32.ofNat fl), (.ref ad)]) rfl trivial ?_
  refine wp_getF ok (wd hw 20 rfl) F3 (by decide +kernel) ?_
  refine wp_run ok hK (B := [(42, .lconst 1, false), (43, .ladd, false)]) (by decide +kernel) (ps := []) (pc' := 44) (L' := #[.val ((.ref a)), .val (.long u), .second]) (S' := [.long (bl + (1 : Int64)), .int (Int32.ofNat fl), (.ref ad)]) rfl trivial ?_
  refine wp_sJ ok A_ad (i := fl) (own_nat (by omega)) p1 (by decide +kernel) g_ad ?_
  intro h1 W2 A3
  have F4 := F1.other W2 (Or.inl ne_a_ad)
  have F5 := F2.other W2 (Or.inl ne_a_ad)
  have F6 := F3.other W2 (Or.inl ne_a_ad)
  have E7 := E_a.wr W2
  have Z8 : n0 ≤ h1.size := by rw [W2.size]; exact Z0
  have K9 := K0.wr W2 (Or.inl (by simp))
  refine wp_run ok hK (B := [(45, .aload_n 0, false), (46, .dup, false)]) (by decide +kernel) (ps := []) (pc' := 47) (L' := #[.val ((.ref a)), .val (.long u), .second]) (S' := [(.ref a), (.ref a)]) rfl trivial ?_
  refine wp_getF ok (wd hw 18 rfl) F5 (by decide +kernel) ?_
  refine wp_run ok hK (B := [(50, .iconst 1, false), (51, .iadd, false)]) (by decide +kernel) (ps := []) (pc' := 52) (L' := #[.val ((.ref a)), .val (.long u), .second]) (S' := [.int ((Int32.ofNat fl) + (1 : Int32)), (.ref a)]) rfl trivial ?_
  refine wp_putF ok (wd hw 18 rfl) F5 E7 (Or.inl (wd hw 19 rfl)) (wd hw 2 rfl) (ty := .int) (by decide) rfl rfl (by decide +kernel) g_a ?_
  intro h10 W11
  have F12 := F4.other W11 (Or.inr (slot_ne (C := "com/example/attestore/attestore/server/BlockIndex") (a0 := a0) (Or.inl (wd hw 12 rfl)) (Or.inl (wd hw 19 rfl)) (by decide +kernel) (t := (.array .long)) (t' := .int) (by decide +kernel) (by decide +kernel)))
  have F13 := F5.same W11
  have F14 := F6.other W11 (Or.inr (slot_ne (C := "com/example/attestore/attestore/server/BlockIndex") (a0 := a0) (Or.inl (wd hw 21 rfl)) (Or.inl (wd hw 19 rfl)) (by decide +kernel) (t := .long) (t' := .int) (by decide +kernel) (by decide +kernel)))
  have A15 := A3.other W11 (Ne.symm ne_a_ad)
  have E16 := E7.wr W11
  have Z17 : n0 ≤ h10.size := by rw [W11.size]; exact Z8
  have K18 := K9.wr W11 (Or.inl (by simp))
  refine wp_run ok hK (B := [(55, .aload_n 0, false), (56, .dup, false)]) (by decide +kernel) (ps := []) (pc' := 57) (L' := #[.val ((.ref a)), .val (.long u), .second]) (S' := [(.ref a), (.ref a)]) rfl trivial ?_
  refine wp_getF ok (wd hw 20 rfl) F14 (by decide +kernel) ?_
  refine wp_run ok hK (B := [(60, .lload_n 1, false), (61, .ladd, false)]) (by decide +kernel) (ps := []) (pc' := 62) (L' := #[.val ((.ref a)), .val (.long u), .second]) (S' := [.long (bl + u), (.ref a)]) rfl trivial ?_
  refine wp_putF ok (wd hw 20 rfl) F14 E16 (Or.inl (wd hw 21 rfl)) (wd hw 2 rfl) (ty := .long) (by decide) rfl rfl (by decide +kernel) g_a ?_
  intro h19 W20
  have F21 := F12.other W20 (Or.inr (slot_ne (C := "com/example/attestore/attestore/server/BlockIndex") (a0 := a0) (Or.inl (wd hw 12 rfl)) (Or.inl (wd hw 21 rfl)) (by decide +kernel) (t := (.array .long)) (t' := .long) (by decide +kernel) (by decide +kernel)))
  have F22 := F13.other W20 (Or.inr (slot_ne (C := "com/example/attestore/attestore/server/BlockIndex") (a0 := a0) (Or.inl (wd hw 19 rfl)) (Or.inl (wd hw 21 rfl)) (by decide +kernel) (t := .int) (t' := .long) (by decide +kernel) (by decide +kernel)))
  have F23 := F14.same W20
  have A24 := A15.other W20 (Ne.symm ne_a_ad)
  have E25 := E16.wr W20
  have Z26 : n0 ≤ h19.size := by rw [W20.size]; exact Z17
  have K27 := K18.wr W20 (Or.inl (by simp))
  refine wp_retV ok (by decide +kernel) (by decide) (by decide) ?_
  exact ⟨rfl, K27.1, fun i => if i = fl then bl + 1 else g i, ⟨E25, ad, _, F21, Fld_c F22 (congrArg Value.int (Int32.ofNat_succ fl)), F23, A24, own_T T, own_G G, ga⟩, if_pos rfl, fun i hi => if_neg (by omega)⟩
def k_ad2 : List (Nat × Value) := []
def Q_ad2 (Z : State) (a : Addr) (u : Int64) (bl : Int64) (g : Nat → Int64) (m0 : Nat) (h0 : Heap) : Post := fun v h => v = none ∧ h0.size ≤ h.size ∧ ∃ g2 : Nat → Int64, BX Z h a 32 (16 + 1) (bl + u) g2 m0 ∧ g2 16 = bl + (1 : Int64) ∧ ∀ i, i < 16 → g2 i = g i
theorem pn_ad2 : plainFor (⟨"com/example/attestore/attestore/server/BlockIndex", "add", "(J)V"⟩ : MethodName) = true := by first | (refine plainFor_of_name ?_; simp [plainName, overriddenIn]; done) | decide +kernel
set_option maxRecDepth 65536 in
set_option maxHeartbeats 40000000 in
theorem c_ad2 (l : Launch) (Z : State) (a0 : Array Value) (hw : ∀ d ∈ tables_1, d.before a0 Z = true) (a : Addr) (u : Int64) (bl : Int64) (g : Nat → Int64) (m0 : Nat) (h0 : Heap) (n0 : Nat) (Z0 : n0 ≤ h0.size) (B0 : BX Z h0 a 16 16 bl g m0) (hm : n0 ≤ m0) (g_a : n0 ≤ a) (m0h : m0 ≤ h0.size) :
    Con l Z (⟨"com/example/attestore/attestore/server/BlockIndex", "add", "(J)V"⟩ : MethodName) prog_59_method_2_code 3 (none : Option FieldType) ({ frames := 2, cells := 1, slots := 32, locals := 33 } : Room) #[(.ref a), .long u] h0 n0 (Q_ad2 Z a u bl g m0 h0) [] := by
  refine con_of_wp pn_ad2 (L0 := #[.val ((.ref a)), .val (.long u), .second]) (fun m => by first | (simp [entryFrame, mkF, argsToLocals, Value.category]; done) | rfl) (fun X hl ok => ?_)
  subst hl
  have hK : Konst Z a0 "com/example/attestore/attestore/server/BlockIndex" k_ad2 := trivial
  have B1 := B0
  obtain ⟨E_a, ad, f, F1, F2, F3, A_ad, T, G, ga⟩ := B1
  have g_ad : n0 ≤ ad := Nat.le_trans hm ga
  have ne_a_ad : a ≠ ad := ne_ar E_a (wd hw 2 rfl) A_ad
  have K0 : Keep h0 h0 [a] := Keep.refl _ _
  refine wp_run ok hK (B := [(0, .aload_n 0, false)]) (by decide +kernel) (ps := []) (pc' := 1) (L' := #[.val ((.ref a)), .val (.long u), .second]) (S' := [(.ref a)]) rfl trivial ?_
  refine wp_getF ok (wd hw 18 rfl) F2 (by decide +kernel) ?_
  refine wp_run ok hK (B := [(4, .aload_n 0, false)]) (by decide +kernel) (ps := []) (pc' := 5) (L' := #[.val ((.ref a)), .val (.long u), .second]) (S' := [(.ref a), .int (16 : Int32)]) rfl trivial ?_
  refine wp_getF ok (wd hw 11 rfl) F1 (by decide +kernel) ?_
  refine wp_alen ok A_ad (by decide +kernel) ?_
  show WP X n0 (Q_ad2 Z a u bl g m0 h0) h0 0 0 9 #[.val ((.ref a)), .val (.long u), .second] [.int (16 : Int32), .int (16 : Int32)]
  refine wp_run ok hK (B := [(9, .if_icmp .ne 21, false), (12, .aload_n 0, false), (13, .aload_n 0, false)]) (by decide +kernel) (ps := [Op.if_icmp.holds .ne (16 : Int32) (16 : Int32) = false]) (pc' := 14) (L' := #[.val ((.ref a)), .val (.long u), .second]) (S' := [(.ref a), (.ref a)]) rfl ⟨(XT.ii_ne_f (by decide)), trivial⟩ ?_
  refine wp_getF ok (wd hw 11 rfl) F1 (by decide +kernel) ?_
  refine wp_run ok hK (B := [(17, .iconst 2, false), (18, .aload_n 0, false)]) (by decide +kernel) (ps := []) (pc' := 19) (L' := #[.val ((.ref a)), .val (.long u), .second]) (S' := [(.ref a), .int (2 : Int32), (.ref ad), (.ref a)]) rfl trivial ?_
  refine wp_getF ok (wd hw 11 rfl) F1 (by decide +kernel) ?_
  refine wp_alen ok A_ad (by decide +kernel) ?_
  show WP X n0 (Q_ad2 Z a u bl g m0 h0) h0 0 0 23 #[.val ((.ref a)), .val (.long u), .second] [.int (16 : Int32), .int (2 : Int32), (.ref ad), (.ref a)]
  refine wp_run ok hK (B := [(23, .imul, false)]) (by decide +kernel) (ps := []) (pc' := 24) (L' := #[.val ((.ref a)), .val (.long u), .second]) (S' := [.int (32 : Int32), (.ref ad), (.ref a)]) rfl trivial ?_
  refine wp_static ok (wd hw 72 rfl) (wd hw 73 rfl) (wd hw 74 rfl) (wd hw 75 rfl) (by decide) (argsL := [(.ref ad), .int (32 : Int32)]) (rest := [(.ref a)]) (c_cpj _ Z a0 hw ad f h0 n0 Z0 A_ad T) (ps := [(.array .long), .int]) (by decide +kernel) (by rfl) (by rfl) (by rfl) (by decide +kernel) (by decide) (Nat.le_of_ble_eq_true rfl) (by decide) (by decide) ?_
  intro r5 h6 q7
  obtain ⟨a1, rfl, K2, g3, A4⟩ := q7
  have E8 := E_a.keep K2
  have F9 := F1.keep K2 (by simp only [List.mem_cons, List.not_mem_nil, or_false, not_or]; exact not_false)
  have F10 := F2.keep K2 (by simp only [List.mem_cons, List.not_mem_nil, or_false, not_or]; exact not_false)
  have F11 := F3.keep K2 (by simp only [List.mem_cons, List.not_mem_nil, or_false, not_or]; exact not_false)
  have A12 := A_ad.keep K2 (by simp only [List.mem_cons, List.not_mem_nil, or_false, not_or]; exact not_false)
  have Z13 : n0 ≤ h6.size := Nat.le_trans Z0 K2.1
  have K14 := K0.trans K2 all0
  have g15 : n0 ≤ a1 := Nat.le_trans Z0 g3
  have N16 : a ≠ a1 := Nat.ne_of_lt (Nat.lt_of_lt_of_le (E_a.lt) g3)
  have N17 : ad ≠ a1 := Nat.ne_of_lt (Nat.lt_of_lt_of_le (A_ad.lt) g3)
  show WP X n0 (Q_ad2 Z a u bl g m0 h0) h6 1 32 27 #[.val ((.ref a)), .val (.long u), .second] [(.ref a1), (.ref a)]
  refine wp_putF ok (wd hw 11 rfl) F9 E8 (Or.inl (wd hw 12 rfl)) (wd hw 2 rfl) (ty := (.array .long)) (by decide) rfl rfl (by decide +kernel) g_a ?_
  intro h18 W19
  have F20 := F9.same W19
  have F21 := F10.other W19 (Or.inr (slot_ne (C := "com/example/attestore/attestore/server/BlockIndex") (a0 := a0) (Or.inl (wd hw 19 rfl)) (Or.inl (wd hw 12 rfl)) (by decide +kernel) (t := .int) (t' := (.array .long)) (by decide +kernel) (by decide +kernel)))
  have F22 := F11.other W19 (Or.inr (slot_ne (C := "com/example/attestore/attestore/server/BlockIndex") (a0 := a0) (Or.inl (wd hw 21 rfl)) (Or.inl (wd hw 12 rfl)) (by decide +kernel) (t := .long) (t' := (.array .long)) (by decide +kernel) (by decide +kernel)))
  have A23 := A12.other W19 (Ne.symm ne_a_ad)
  have A24 := A4.other W19 (Ne.symm N16)
  have E25 := E8.wr W19
  have Z26 : n0 ≤ h18.size := by rw [W19.size]; exact Z13
  have K27 := K14.wr W19 (Or.inl (by simp))
  refine wp_run ok hK (B := [(30, .aload_n 0, false)]) (by decide +kernel) (ps := []) (pc' := 31) (L' := #[.val ((.ref a)), .val (.long u), .second]) (S' := [(.ref a)]) rfl trivial ?_
  refine wp_getF ok (wd hw 11 rfl) F20 (by decide +kernel) ?_
  refine wp_run ok hK (B := [(34, .aload_n 0, false)]) (by decide +kernel) (ps := []) (pc' := 35) (L' := #[.val ((.ref a)), .val (.long u), .second]) (S' := [(.ref a), (.ref a1)]) rfl trivial ?_
  refine wp_getF ok (wd hw 18 rfl) F21 (by decide +kernel) ?_
  refine wp_run ok hK (B := [(38, .aload_n 0, false)]) (by decide +kernel) (ps := []) (pc' := 39) (L' := #[.val ((.ref a)), .val (.long u), .second]) (S' := [(.ref a), .int (16 : Int32), (.ref a1)]) rfl trivial ?_
  refine wp_getF ok (wd hw 20 rfl) F22 (by decide +kernel) ?_
  refine wp_run ok hK (B := [(42, .lconst 1, false), (43, .ladd, false)]) (by decide +kernel) (ps := []) (pc' := 44) (L' := #[.val ((.ref a)), .val (.long u), .second]) (S' := [.long (bl + (1 : Int64)), .int (16 : Int32), (.ref a1)]) rfl trivial ?_
  refine wp_sJ ok A24 (i := 16) (by rfl) (by decide) (by decide +kernel) g15 ?_
  intro h28 W29 A30
  have F31 := F20.other W29 (Or.inl N16)
  have F32 := F21.other W29 (Or.inl N16)
  have F33 := F22.other W29 (Or.inl N16)
  have A34 := A23.other W29 N17
  have E35 := E25.wr W29
  have Z36 : n0 ≤ h28.size := by rw [W29.size]; exact Z26
  have K37 := K27.wr W29 (Or.inr (Nat.le_trans K0.1 g3))
  refine wp_run ok hK (B := [(45, .aload_n 0, false), (46, .dup, false)]) (by decide +kernel) (ps := []) (pc' := 47) (L' := #[.val ((.ref a)), .val (.long u), .second]) (S' := [(.ref a), (.ref a)]) rfl trivial ?_
  refine wp_getF ok (wd hw 18 rfl) F32 (by decide +kernel) ?_
  refine wp_run ok hK (B := [(50, .iconst 1, false), (51, .iadd, false)]) (by decide +kernel) (ps := []) (pc' := 52) (L' := #[.val ((.ref a)), .val (.long u), .second]) (S' := [.int (17 : Int32), (.ref a)]) rfl trivial ?_
  refine wp_putF ok (wd hw 18 rfl) F32 E35 (Or.inl (wd hw 19 rfl)) (wd hw 2 rfl) (ty := .int) (by decide) rfl rfl (by decide +kernel) g_a ?_
  intro h38 W39
  have F40 := F31.other W39 (Or.inr (slot_ne (C := "com/example/attestore/attestore/server/BlockIndex") (a0 := a0) (Or.inl (wd hw 12 rfl)) (Or.inl (wd hw 19 rfl)) (by decide +kernel) (t := (.array .long)) (t' := .int) (by decide +kernel) (by decide +kernel)))
  have F41 := F32.same W39
  have F42 := F33.other W39 (Or.inr (slot_ne (C := "com/example/attestore/attestore/server/BlockIndex") (a0 := a0) (Or.inl (wd hw 21 rfl)) (Or.inl (wd hw 19 rfl)) (by decide +kernel) (t := .long) (t' := .int) (by decide +kernel) (by decide +kernel)))
  have A43 := A34.other W39 (Ne.symm ne_a_ad)
  have A44 := A30.other W39 (Ne.symm N16)
  have E45 := E35.wr W39
  have Z46 : n0 ≤ h38.size := by rw [W39.size]; exact Z36
  have K47 := K37.wr W39 (Or.inl (by simp))
  refine wp_run ok hK (B := [(55, .aload_n 0, false), (56, .dup, false)]) (by decide +kernel) (ps := []) (pc' := 57) (L' := #[.val ((.ref a)), .val (.long u), .second]) (S' := [(.ref a), (.ref a)]) rfl trivial ?_
  refine wp_getF ok (wd hw 20 rfl) F42 (by decide +kernel) ?_
  refine wp_run ok hK (B := [(60, .lload_n 1, false), (61, .ladd, false)]) (by decide +kernel) (ps := []) (pc' := 62) (L' := #[.val ((.ref a)), .val (.long u), .second]) (S' := [.long (bl + u), (.ref a)]) rfl trivial ?_
  refine wp_putF ok (wd hw 20 rfl) F42 E45 (Or.inl (wd hw 21 rfl)) (wd hw 2 rfl) (ty := .long) (by decide) rfl rfl (by decide +kernel) g_a ?_
  intro h48 W49
  have F50 := F40.other W49 (Or.inr (slot_ne (C := "com/example/attestore/attestore/server/BlockIndex") (a0 := a0) (Or.inl (wd hw 12 rfl)) (Or.inl (wd hw 21 rfl)) (by decide +kernel) (t := (.array .long)) (t' := .long) (by decide +kernel) (by decide +kernel)))
  have F51 := F41.other W49 (Or.inr (slot_ne (C := "com/example/attestore/attestore/server/BlockIndex") (a0 := a0) (Or.inl (wd hw 19 rfl)) (Or.inl (wd hw 21 rfl)) (by decide +kernel) (t := .int) (t' := .long) (by decide +kernel) (by decide +kernel)))
  have F52 := F42.same W49
  have A53 := A43.other W49 (Ne.symm ne_a_ad)
  have A54 := A44.other W49 (Ne.symm N16)
  have E55 := E45.wr W49
  have Z56 : n0 ≤ h48.size := by rw [W49.size]; exact Z46
  have K57 := K47.wr W49 (Or.inl (by simp))
  refine wp_retV ok (by decide +kernel) (by decide) (by decide) ?_
  exact ⟨rfl, K57.1, fun i => if i = 16 then bl + 1 else g i, ⟨E55, a1, _, F50, F51, F52, A54, own_T (own_T2 T), own_G (fun i hi => by rw [if_pos hi]; exact G i hi), Nat.le_trans m0h (Nat.le_trans K0.1 g3)⟩, if_pos rfl, fun i hi => if_neg (by omega)⟩
def k_fil : List (Nat × Value) := []
def Q_fil (Z : State) (a : Addr) (n : Nat) (fl : Nat) (bl : Int64) (g : Nat → Int64) (m0 : Nat) (h0 : Heap) : Post := fun v h => v = some (.int (Int32.ofNat fl)) ∧ h0 = h
theorem pn_fil : plainFor (⟨"com/example/attestore/attestore/server/BlockIndex", "files", "()I"⟩ : MethodName) = true := by first | (refine plainFor_of_name ?_; simp [plainName, overriddenIn]; done) | decide +kernel
set_option maxRecDepth 65536 in
set_option maxHeartbeats 40000000 in
theorem c_fil (l : Launch) (Z : State) (a0 : Array Value) (hw : ∀ d ∈ tables_1, d.before a0 Z = true) (a : Addr) (n : Nat) (fl : Nat) (bl : Int64) (g : Nat → Int64) (m0 : Nat) (h0 : Heap) (n0 : Nat) (Z0 : n0 ≤ h0.size) (B0 : BX Z h0 a n fl bl g m0) (hm : n0 ≤ m0) (g_a : n0 ≤ a) :
    Con l Z (⟨"com/example/attestore/attestore/server/BlockIndex", "files", "()I"⟩ : MethodName) prog_59_method_3_code 1 (some .int) ({ frames := 0, cells := 0, slots := 0, locals := 0 } : Room) #[(.ref a)] h0 n0 (Q_fil Z a n fl bl g m0 h0) [] := by
  refine con_of_wp pn_fil (L0 := #[.val ((.ref a))]) (fun m => by first | (simp [entryFrame, mkF, argsToLocals, Value.category]; done) | rfl) (fun X hl ok => ?_)
  subst hl
  have hK : Konst Z a0 "com/example/attestore/attestore/server/BlockIndex" k_fil := trivial
  have B1 := B0
  obtain ⟨E_a, ad, f, F1, F2, F3, A_ad, T, G, ga⟩ := B1
  have g_ad : n0 ≤ ad := Nat.le_trans hm ga
  have ne_a_ad : a ≠ ad := ne_ar E_a (wd hw 2 rfl) A_ad
  refine wp_run ok hK (B := [(0, .aload_n 0, false)]) (by decide +kernel) (ps := []) (pc' := 1) (L' := #[.val ((.ref a))]) (S' := [(.ref a)]) rfl trivial ?_
  refine wp_getF ok (wd hw 18 rfl) F2 (by decide +kernel) ?_
  refine wp_retI ok (by decide +kernel) (by decide) (by decide) ?_
  exact ⟨rfl, rfl⟩
def k_blo : List (Nat × Value) := []
def Q_blo (Z : State) (a : Addr) (n : Nat) (fl : Nat) (bl : Int64) (g : Nat → Int64) (m0 : Nat) (h0 : Heap) : Post := fun v h => v = some (.long bl) ∧ h0 = h
theorem pn_blo : plainFor (⟨"com/example/attestore/attestore/server/BlockIndex", "blocks", "()J"⟩ : MethodName) = true := by first | (refine plainFor_of_name ?_; simp [plainName, overriddenIn]; done) | decide +kernel
set_option maxRecDepth 65536 in
set_option maxHeartbeats 40000000 in
theorem c_blo (l : Launch) (Z : State) (a0 : Array Value) (hw : ∀ d ∈ tables_1, d.before a0 Z = true) (a : Addr) (n : Nat) (fl : Nat) (bl : Int64) (g : Nat → Int64) (m0 : Nat) (h0 : Heap) (n0 : Nat) (Z0 : n0 ≤ h0.size) (B0 : BX Z h0 a n fl bl g m0) (hm : n0 ≤ m0) (g_a : n0 ≤ a) :
    Con l Z (⟨"com/example/attestore/attestore/server/BlockIndex", "blocks", "()J"⟩ : MethodName) prog_59_method_4_code 1 (some .long) ({ frames := 0, cells := 0, slots := 0, locals := 0 } : Room) #[(.ref a)] h0 n0 (Q_blo Z a n fl bl g m0 h0) [] := by
  refine con_of_wp pn_blo (L0 := #[.val ((.ref a))]) (fun m => by first | (simp [entryFrame, mkF, argsToLocals, Value.category]; done) | rfl) (fun X hl ok => ?_)
  subst hl
  have hK : Konst Z a0 "com/example/attestore/attestore/server/BlockIndex" k_blo := trivial
  have B1 := B0
  obtain ⟨E_a, ad, f, F1, F2, F3, A_ad, T, G, ga⟩ := B1
  have g_ad : n0 ≤ ad := Nat.le_trans hm ga
  have ne_a_ad : a ≠ ad := ne_ar E_a (wd hw 2 rfl) A_ad
  refine wp_run ok hK (B := [(0, .aload_n 0, false)]) (by decide +kernel) (ps := []) (pc' := 1) (L' := #[.val ((.ref a))]) (S' := [(.ref a)]) rfl trivial ?_
  refine wp_getF ok (wd hw 20 rfl) F3 (by decide +kernel) ?_
  refine wp_retJ ok (by decide +kernel) (by decide) (by decide) ?_
  exact ⟨rfl, rfl⟩
def k_fof : List (Nat × Value) := []
def Q_fof (Z : State) (a : Addr) (q : Int64) (n : Nat) (fl : Nat) (bl : Int64) (g : Nat → Int64) (m0 : Nat) (h0 : Heap) : Post := fun v h => h0 = h ∧ ∃ rho : Nat, v = some (.int (Int32.ofNat (rho + 1))) ∧ rho < fl ∧ (g rho).toInt ≤ q.toInt ∧ ∀ k, rho < k → k < fl → q.toInt < (g k).toInt
theorem own_fof_1 (q : Int64) (n : Nat) (fl : Nat) (bl : Int64) (m0 : Nat) (p1 : 1 ≤ fl) (p2 : fl ≤ n) (p3 : n ≤ 32) (lo : Int32) (hi : Int32) (i : Nat) (j : Nat) (hlo : lo.toInt = (i : Int)) (hhi : hi.toInt = (j : Int)) (hij : i ≤ j) (hj : j < fl) (hc13 : lo < hi) (mid : Int32) (h_mid : mid = (ush ((lo + hi) + (1 : Int32)) (1 : Int32))) : mid.toInt = ((((i + j + 1) / 2) : Nat) : Int) := by
  have o1 : (1 : Int32).toInt = 1 := rfl
  have a1 : (lo + hi).toInt = (i : Int) + j := by rw [x_iadd (by rw [hlo, hhi]; omega) (by rw [hlo, hhi]; omega), hlo, hhi]
  have a2 : (lo + hi + 1).toInt = (i : Int) + j + 1 := by rw [x_iadd (by rw [a1, o1]; omega) (by rw [a1, o1]; omega), a1, o1]
  rw [h_mid, c_ush _ 1 1 (by decide) (by decide), a2]; omega
theorem own_fof_2 (q : Int64) (n : Nat) (fl : Nat) (bl : Int64) (m0 : Nat) (p1 : 1 ≤ fl) (p2 : fl ≤ n) (p3 : n ≤ 32) (lo : Int32) (hi : Int32) (i : Nat) (j : Nat) (hlo : lo.toInt = (i : Int)) (hhi : hi.toInt = (j : Int)) (hij : i ≤ j) (hj : j < fl) (hc13 : lo < hi) (mid : Int32) (h_mid : mid = (ush ((lo + hi) + (1 : Int32)) (1 : Int32))) (gm : Int64) (hlt : i < j) (hmid : mid.toInt = ((((i + j + 1) / 2) : Nat) : Int)) (hc35 : q < gm) : (mid - (1 : Int32)).toInt = ((((i + j + 1) / 2) - 1 : Nat) : Int) := by
  have o1 : (1 : Int32).toInt = 1 := rfl
  rw [x_isub (by rw [hmid, o1]; omega) (by rw [hmid, o1]; omega), hmid, o1]; omega
theorem own_fof_3 (q : Int64) (n : Nat) (fl : Nat) (bl : Int64) (m0 : Nat) (p1 : 1 ≤ fl) (p2 : fl ≤ n) (p3 : n ≤ 32) (lo : Int32) (hi : Int32) (i : Nat) (j : Nat) (hlo : lo.toInt = (i : Int)) (hhi : hi.toInt = (j : Int)) (hij : i ≤ j) (hj : j < fl) (hc13 : ¬ (lo < hi)) : lo + (1 : Int32) = Int32.ofNat (i + 1) := by
  rw [← Int32.toInt_inj, own_nat (by omega), x_iadd (by rw [hlo]; show _ ≤ (i : Int) + 1; omega) (by rw [hlo]; show (i : Int) + 1 < _; omega), hlo]; show (i : Int) + 1 = _; omega
theorem own_fof_4 (q : Int64) (n : Nat) (fl : Nat) (bl : Int64) (m0 : Nat) (p1 : 1 ≤ fl) (p2 : fl ≤ n) (p3 : n ≤ 32) (lo : Int32) (hi : Int32) (i : Nat) (j : Nat) (hlo : lo.toInt = (i : Int)) (hhi : hi.toInt = (j : Int)) (hij : i ≤ j) (hj : j < fl) (hc13 : lo < hi) (mid : Int32) (h_mid : mid = (ush ((lo + hi) + (1 : Int32)) (1 : Int32))) : mid.toInt = ((((i + j + 1) / 2) : Nat) : Int) := by
  have o1 : (1 : Int32).toInt = 1 := rfl
  have a1 : (lo + hi).toInt = (i : Int) + j := by rw [x_iadd (by rw [hlo, hhi]; omega) (by rw [hlo, hhi]; omega), hlo, hhi]
  have a2 : (lo + hi + 1).toInt = (i : Int) + j + 1 := by rw [x_iadd (by rw [a1, o1]; omega) (by rw [a1, o1]; omega), a1, o1]
  rw [h_mid, c_ush _ 1 1 (by decide) (by decide), a2]; omega
theorem own_fof_5 (q : Int64) (n : Nat) (fl : Nat) (bl : Int64) (m0 : Nat) (p1 : 1 ≤ fl) (p2 : fl ≤ n) (p3 : n ≤ 32) (lo : Int32) (hi : Int32) (i : Nat) (j : Nat) (hlo : lo.toInt = (i : Int)) (hhi : hi.toInt = (j : Int)) (hij : i ≤ j) (hj : j < fl) (hc13 : lo < hi) (mid : Int32) (h_mid : mid = (ush ((lo + hi) + (1 : Int32)) (1 : Int32))) (gm : Int64) (hlt : i < j) (hmid : mid.toInt = ((((i + j + 1) / 2) : Nat) : Int)) (hc35 : q < gm) : (mid - (1 : Int32)).toInt = ((((i + j + 1) / 2) - 1 : Nat) : Int) := by
  have o1 : (1 : Int32).toInt = 1 := rfl
  rw [x_isub (by rw [hmid, o1]; omega) (by rw [hmid, o1]; omega), hmid, o1]; omega
theorem own_fof_6 (q : Int64) (n : Nat) (fl : Nat) (bl : Int64) (m0 : Nat) (p1 : 1 ≤ fl) (p2 : fl ≤ n) (p3 : n ≤ 32) (lo : Int32) (hi : Int32) (i : Nat) (j : Nat) (hlo : lo.toInt = (i : Int)) (hhi : hi.toInt = (j : Int)) (hij : i ≤ j) (hj : j < fl) (hc13 : ¬ (lo < hi)) : lo + (1 : Int32) = Int32.ofNat (i + 1) := by
  rw [← Int32.toInt_inj, own_nat (by omega), x_iadd (by rw [hlo]; show _ ≤ (i : Int) + 1; omega) (by rw [hlo]; show (i : Int) + 1 < _; omega), hlo]; show (i : Int) + 1 = _; omega
theorem own_fof_7 (q : Int64) (n : Nat) (fl : Nat) (bl : Int64) (m0 : Nat) (p1 : 1 ≤ fl) (p2 : fl ≤ n) (p3 : n ≤ 32) : ((Int32.ofNat fl) - (1 : Int32)).toInt = ((fl - 1 : Nat) : Int) := by
  have o1 : (1 : Int32).toInt = 1 := rfl
  rw [x_isub (by rw [own_nat (by omega), o1]; omega) (by rw [own_nat (by omega), o1]; omega), own_nat (by omega), o1]; omega
theorem pn_fof : plainFor (⟨"com/example/attestore/attestore/server/BlockIndex", "fileOf", "(J)I"⟩ : MethodName) = true := by first | (refine plainFor_of_name ?_; simp [plainName, overriddenIn]; done) | decide +kernel
set_option maxRecDepth 65536 in
set_option maxHeartbeats 40000000 in
theorem c_fof (l : Launch) (Z : State) (a0 : Array Value) (hw : ∀ d ∈ tables_1, d.before a0 Z = true) (a : Addr) (q : Int64) (n : Nat) (fl : Nat) (bl : Int64) (g : Nat → Int64) (m0 : Nat) (h0 : Heap) (n0 : Nat) (Z0 : n0 ≤ h0.size) (B0 : BX Z h0 a n fl bl g m0) (hm : n0 ≤ m0) (g_a : n0 ≤ a) (s0 : (g 0).toInt ≤ q.toInt) (srt : ∀ i j, i ≤ j → j < fl → (g i).toInt ≤ (g j).toInt) (p1 : 1 ≤ fl) (p2 : fl ≤ n) (p3 : n ≤ 32) :
    Con l Z (⟨"com/example/attestore/attestore/server/BlockIndex", "fileOf", "(J)I"⟩ : MethodName) prog_59_method_6_code 6 (some .int) ({ frames := 0, cells := 0, slots := 0, locals := 0 } : Room) #[(.ref a), .long q] h0 n0 (Q_fof Z a q n fl bl g m0 h0) [] := by
  refine con_of_wp pn_fof (L0 := #[.val ((.ref a)), .val (.long q), .second, .unset, .unset, .unset]) (fun m => by first | (simp [entryFrame, mkF, argsToLocals, Value.category]; done) | rfl) (fun X hl ok => ?_)
  subst hl
  have hK : Konst Z a0 "com/example/attestore/attestore/server/BlockIndex" k_fof := trivial
  have B1 := B0
  obtain ⟨E_a, ad, f, F1, F2, F3, A_ad, T, G, ga⟩ := B1
  have g_ad : n0 ≤ ad := Nat.le_trans hm ga
  have ne_a_ad : a ≠ ad := ne_ar E_a (wd hw 2 rfl) A_ad
  refine wp_run ok hK (B := [(0, .iconst 0, false), (1, .istore_n 3, false), (2, .aload_n 0, false)]) (by decide +kernel) (ps := []) (pc' := 3) (L' := #[.val ((.ref a)), .val (.long q), .second, .val (.int (0 : Int32)), .unset, .unset]) (S' := [(.ref a)]) rfl trivial ?_
  refine wp_getF ok (wd hw 18 rfl) F2 (by decide +kernel) ?_
  refine wp_run ok hK (B := [(6, .iconst 1, false), (7, .isub, false), (8, .istore 4, false)]) (by decide +kernel) (ps := []) (pc' := 10) (L' := #[.val ((.ref a)), .val (.long q), .second, .val (.int (0 : Int32)), .val (.int ((Int32.ofNat fl) - (1 : Int32))), .unset]) (S' := []) rfl trivial ?_
  have loop : ∀ (d : Nat) (lo hi : Int32) (i j : Nat) (sl : Slot), (sl = .unset ∨ ∃ z, sl = .val (.int z)) → lo.toInt = (i : Int) → hi.toInt = (j : Int) → i ≤ j → j < fl → j - i = d → (g i).toInt ≤ q.toInt → (∀ k, j < k → k < fl → q.toInt < (g k).toInt) → WP X n0 (Q_fof Z a q n fl bl g m0 h0) h0 0 0 10 #[.val (.ref a), .val (.long q), .second, .val (.int lo), .val (.int hi), sl] [] := by
    intro d
    induction d using Nat.strongRecOn with
    | _ d ih =>
    intro lo hi i j sl hsl hlo hhi hij hj hd hg hk
    rcases hsl with rfl | ⟨z, rfl⟩
    · refine wp_run ok hK (B := [(10, .iload_n 3, false)]) (by decide +kernel) (ps := []) (pc' := 11) (L' := #[.val ((.ref a)), .val (.long q), .second, .val (.int lo), .val (.int hi), .unset]) (S' := [.int lo]) rfl trivial ?_
      refine wp_run ok hK (B := [(11, .iload 4, false)]) (by decide +kernel) (ps := []) (pc' := 13) (L' := #[.val ((.ref a)), .val (.long q), .second, .val (.int lo), .val (.int hi), .unset]) (S' := [.int hi, .int lo]) rfl trivial ?_
      by_cases hc13 : lo < hi
      · refine wp_run ok hK (B := [(13, .if_icmp .ge 40, false)]) (by decide +kernel) (ps := [Op.if_icmp.holds .ge lo hi = false]) (pc' := 16) (L' := #[.val ((.ref a)), .val (.long q), .second, .val (.int lo), .val (.int hi), .unset]) (S' := []) rfl ⟨(XT.ii_ge_f hc13), trivial⟩ ?_
        refine wp_run ok hK (B := [(16, .iload_n 3, false), (17, .iload 4, false), (19, .iadd, false), (20, .iconst 1, false), (21, .iadd, false), (22, .iconst 1, false), (23, .iushr, false), (24, .istore 5, false)]) (by decide +kernel) (ps := []) (pc' := 26) (L' := #[.val ((.ref a)), .val (.long q), .second, .val (.int lo), .val (.int hi), .val (.int (ush ((lo + hi) + (1 : Int32)) (1 : Int32)))]) (S' := []) rfl trivial ?_
        obtain ⟨mid, h_mid⟩ : ∃ z : Int32, z = (ush ((lo + hi) + (1 : Int32)) (1 : Int32)) := ⟨_, rfl⟩
        rw [← h_mid]
        refine wp_run ok hK (B := [(26, .aload_n 0, false)]) (by decide +kernel) (ps := []) (pc' := 27) (L' := #[.val ((.ref a)), .val (.long q), .second, .val (.int lo), .val (.int hi), .val (.int mid)]) (S' := [(.ref a)]) rfl trivial ?_
        refine wp_getF ok (wd hw 11 rfl) F1 (by decide +kernel) ?_
        refine wp_run ok hK (B := [(30, .iload 5, false)]) (by decide +kernel) (ps := []) (pc' := 32) (L' := #[.val ((.ref a)), .val (.long q), .second, .val (.int lo), .val (.int hi), .val (.int mid)]) (S' := [.int mid, (.ref ad)]) rfl trivial ?_
        have hlt : i < j := by rw [Int32.lt_iff_toInt_lt, hlo, hhi] at hc13; omega
        have hmid : mid.toInt = ((((i + j + 1) / 2) : Nat) : Int) := (own_fof_1 q n fl bl m0 p1 p2 p3 lo hi i j hlo hhi hij hj hc13 mid h_mid)
        obtain ⟨gm, hgm⟩ : ∃ z : Int64, z = g ((i + j + 1) / 2) := ⟨_, rfl⟩
        refine wp_aJ ok A_ad (i := ((i + j + 1) / 2)) hmid (by omega) (v := .long gm) (by rw [hgm]; exact G _ (by omega)) (by decide +kernel) ?_
        refine wp_run ok hK (B := [(33, .lload_n 1, false), (34, .lcmp, false)]) (by decide +kernel) (ps := []) (pc' := 35) (L' := #[.val ((.ref a)), .val (.long q), .second, .val (.int lo), .val (.int hi), .val (.int mid)]) (S' := [.int (cmpL gm q)]) rfl trivial ?_
        by_cases hc35 : q < gm
        · refine wp_run ok hK (B := [(35, .ifCond .gt 9, true)]) (by decide +kernel) (ps := [Op.ifCond.holds .gt (cmpL gm q) = true]) (pc' := 44) (L' := #[.val ((.ref a)), .val (.long q), .second, .val (.int lo), .val (.int hi), .val (.int mid)]) (S' := []) rfl ⟨(XT.ll_gt_t hc35), trivial⟩ ?_
          refine wp_run ok hK (B := [(44, .iload 5, false), (46, .iconst 1, false), (47, .isub, false), (48, .istore 4, false), (50, .goto (-40), false)]) (by decide +kernel) (ps := []) (pc' := 10) (L' := #[.val ((.ref a)), .val (.long q), .second, .val (.int lo), .val (.int (mid - (1 : Int32))), .val (.int mid)]) (S' := []) rfl trivial ?_
          exact ih (((i + j + 1) / 2) - 1 - i) (by omega) lo (mid - (1 : Int32)) i (((i + j + 1) / 2) - 1) _ (Or.inr ⟨_, rfl⟩) hlo (own_fof_2 q n fl bl m0 p1 p2 p3 lo hi i j hlo hhi hij hj hc13 mid h_mid gm hlt hmid hc35) (by omega) (by omega) rfl hg (fun k k1 k2 => by have w1 := srt ((i + j + 1) / 2) k (by omega) k2; rw [Int64.lt_iff_toInt_lt, hgm] at hc35; omega)
        · refine wp_run ok hK (B := [(35, .ifCond .gt 9, false)]) (by decide +kernel) (ps := [Op.ifCond.holds .gt (cmpL gm q) = false]) (pc' := 38) (L' := #[.val ((.ref a)), .val (.long q), .second, .val (.int lo), .val (.int hi), .val (.int mid)]) (S' := []) rfl ⟨(XT.ll_gt_f hc35), trivial⟩ ?_
          refine wp_run ok hK (B := [(38, .iload 5, false), (40, .istore_n 3, false), (41, .goto 9, false), (50, .goto (-40), false)]) (by decide +kernel) (ps := []) (pc' := 10) (L' := #[.val ((.ref a)), .val (.long q), .second, .val (.int mid), .val (.int hi), .val (.int mid)]) (S' := []) rfl trivial ?_
          exact ih (j - ((i + j + 1) / 2)) (by omega) mid hi ((i + j + 1) / 2) j _ (Or.inr ⟨_, rfl⟩) hmid hhi (by omega) hj rfl (by rw [Int64.lt_iff_toInt_lt, hgm] at hc35; omega) hk
      · refine wp_run ok hK (B := [(13, .if_icmp .ge 40, true)]) (by decide +kernel) (ps := [Op.if_icmp.holds .ge lo hi = true]) (pc' := 53) (L' := #[.val ((.ref a)), .val (.long q), .second, .val (.int lo), .val (.int hi), .unset]) (S' := []) rfl ⟨(XT.ii_ge_t hc13), trivial⟩ ?_
        refine wp_run ok hK (B := [(53, .iload_n 3, false), (54, .iconst 1, false), (55, .iadd, false)]) (by decide +kernel) (ps := []) (pc' := 56) (L' := #[.val ((.ref a)), .val (.long q), .second, .val (.int lo), .val (.int hi), .unset]) (S' := [.int (lo + (1 : Int32))]) rfl trivial ?_
        refine wp_retI ok (by decide +kernel) (by decide) (by decide) ?_
        exact ⟨rfl, i, congrArg (fun z => some (Value.int z)) (own_fof_3 q n fl bl m0 p1 p2 p3 lo hi i j hlo hhi hij hj hc13), Nat.lt_of_le_of_lt hij hj, hg, fun k k1 k2 => hk k (by rw [Int32.lt_iff_toInt_lt, hlo, hhi] at hc13; omega) k2⟩
    · refine wp_run ok hK (B := [(10, .iload_n 3, false)]) (by decide +kernel) (ps := []) (pc' := 11) (L' := #[.val ((.ref a)), .val (.long q), .second, .val (.int lo), .val (.int hi), .val (.int z)]) (S' := [.int lo]) rfl trivial ?_
      refine wp_run ok hK (B := [(11, .iload 4, false)]) (by decide +kernel) (ps := []) (pc' := 13) (L' := #[.val ((.ref a)), .val (.long q), .second, .val (.int lo), .val (.int hi), .val (.int z)]) (S' := [.int hi, .int lo]) rfl trivial ?_
      by_cases hc13 : lo < hi
      · refine wp_run ok hK (B := [(13, .if_icmp .ge 40, false)]) (by decide +kernel) (ps := [Op.if_icmp.holds .ge lo hi = false]) (pc' := 16) (L' := #[.val ((.ref a)), .val (.long q), .second, .val (.int lo), .val (.int hi), .val (.int z)]) (S' := []) rfl ⟨(XT.ii_ge_f hc13), trivial⟩ ?_
        refine wp_run ok hK (B := [(16, .iload_n 3, false), (17, .iload 4, false), (19, .iadd, false), (20, .iconst 1, false), (21, .iadd, false), (22, .iconst 1, false), (23, .iushr, false), (24, .istore 5, false)]) (by decide +kernel) (ps := []) (pc' := 26) (L' := #[.val ((.ref a)), .val (.long q), .second, .val (.int lo), .val (.int hi), .val (.int (ush ((lo + hi) + (1 : Int32)) (1 : Int32)))]) (S' := []) rfl trivial ?_
        obtain ⟨mid, h_mid⟩ : ∃ z : Int32, z = (ush ((lo + hi) + (1 : Int32)) (1 : Int32)) := ⟨_, rfl⟩
        rw [← h_mid]
        refine wp_run ok hK (B := [(26, .aload_n 0, false)]) (by decide +kernel) (ps := []) (pc' := 27) (L' := #[.val ((.ref a)), .val (.long q), .second, .val (.int lo), .val (.int hi), .val (.int mid)]) (S' := [(.ref a)]) rfl trivial ?_
        refine wp_getF ok (wd hw 11 rfl) F1 (by decide +kernel) ?_
        refine wp_run ok hK (B := [(30, .iload 5, false)]) (by decide +kernel) (ps := []) (pc' := 32) (L' := #[.val ((.ref a)), .val (.long q), .second, .val (.int lo), .val (.int hi), .val (.int mid)]) (S' := [.int mid, (.ref ad)]) rfl trivial ?_
        have hlt : i < j := by rw [Int32.lt_iff_toInt_lt, hlo, hhi] at hc13; omega
        have hmid : mid.toInt = ((((i + j + 1) / 2) : Nat) : Int) := (own_fof_4 q n fl bl m0 p1 p2 p3 lo hi i j hlo hhi hij hj hc13 mid h_mid)
        obtain ⟨gm, hgm⟩ : ∃ z : Int64, z = g ((i + j + 1) / 2) := ⟨_, rfl⟩
        refine wp_aJ ok A_ad (i := ((i + j + 1) / 2)) hmid (by omega) (v := .long gm) (by rw [hgm]; exact G _ (by omega)) (by decide +kernel) ?_
        refine wp_run ok hK (B := [(33, .lload_n 1, false), (34, .lcmp, false)]) (by decide +kernel) (ps := []) (pc' := 35) (L' := #[.val ((.ref a)), .val (.long q), .second, .val (.int lo), .val (.int hi), .val (.int mid)]) (S' := [.int (cmpL gm q)]) rfl trivial ?_
        by_cases hc35 : q < gm
        · refine wp_run ok hK (B := [(35, .ifCond .gt 9, true)]) (by decide +kernel) (ps := [Op.ifCond.holds .gt (cmpL gm q) = true]) (pc' := 44) (L' := #[.val ((.ref a)), .val (.long q), .second, .val (.int lo), .val (.int hi), .val (.int mid)]) (S' := []) rfl ⟨(XT.ll_gt_t hc35), trivial⟩ ?_
          refine wp_run ok hK (B := [(44, .iload 5, false), (46, .iconst 1, false), (47, .isub, false), (48, .istore 4, false), (50, .goto (-40), false)]) (by decide +kernel) (ps := []) (pc' := 10) (L' := #[.val ((.ref a)), .val (.long q), .second, .val (.int lo), .val (.int (mid - (1 : Int32))), .val (.int mid)]) (S' := []) rfl trivial ?_
          exact ih (((i + j + 1) / 2) - 1 - i) (by omega) lo (mid - (1 : Int32)) i (((i + j + 1) / 2) - 1) _ (Or.inr ⟨_, rfl⟩) hlo (own_fof_5 q n fl bl m0 p1 p2 p3 lo hi i j hlo hhi hij hj hc13 mid h_mid gm hlt hmid hc35) (by omega) (by omega) rfl hg (fun k k1 k2 => by have w1 := srt ((i + j + 1) / 2) k (by omega) k2; rw [Int64.lt_iff_toInt_lt, hgm] at hc35; omega)
        · refine wp_run ok hK (B := [(35, .ifCond .gt 9, false)]) (by decide +kernel) (ps := [Op.ifCond.holds .gt (cmpL gm q) = false]) (pc' := 38) (L' := #[.val ((.ref a)), .val (.long q), .second, .val (.int lo), .val (.int hi), .val (.int mid)]) (S' := []) rfl ⟨(XT.ll_gt_f hc35), trivial⟩ ?_
          refine wp_run ok hK (B := [(38, .iload 5, false), (40, .istore_n 3, false), (41, .goto 9, false), (50, .goto (-40), false)]) (by decide +kernel) (ps := []) (pc' := 10) (L' := #[.val ((.ref a)), .val (.long q), .second, .val (.int mid), .val (.int hi), .val (.int mid)]) (S' := []) rfl trivial ?_
          exact ih (j - ((i + j + 1) / 2)) (by omega) mid hi ((i + j + 1) / 2) j _ (Or.inr ⟨_, rfl⟩) hmid hhi (by omega) hj rfl (by rw [Int64.lt_iff_toInt_lt, hgm] at hc35; omega) hk
      · refine wp_run ok hK (B := [(13, .if_icmp .ge 40, true)]) (by decide +kernel) (ps := [Op.if_icmp.holds .ge lo hi = true]) (pc' := 53) (L' := #[.val ((.ref a)), .val (.long q), .second, .val (.int lo), .val (.int hi), .val (.int z)]) (S' := []) rfl ⟨(XT.ii_ge_t hc13), trivial⟩ ?_
        refine wp_run ok hK (B := [(53, .iload_n 3, false), (54, .iconst 1, false), (55, .iadd, false)]) (by decide +kernel) (ps := []) (pc' := 56) (L' := #[.val ((.ref a)), .val (.long q), .second, .val (.int lo), .val (.int hi), .val (.int z)]) (S' := [.int (lo + (1 : Int32))]) rfl trivial ?_
        refine wp_retI ok (by decide +kernel) (by decide) (by decide) ?_
        exact ⟨rfl, i, congrArg (fun z => some (Value.int z)) (own_fof_6 q n fl bl m0 p1 p2 p3 lo hi i j hlo hhi hij hj hc13), Nat.lt_of_le_of_lt hij hj, hg, fun k k1 k2 => hk k (by rw [Int32.lt_iff_toInt_lt, hlo, hhi] at hc13; omega) k2⟩
  exact loop (fl - 1 - 0) _ _ 0 (fl - 1) _ (Or.inl rfl) rfl (own_fof_7 q n fl bl m0 p1 p2 p3) (by omega) (by omega) rfl s0 (fun k k1 k2 => by omega)
def k_rec : List (Nat × Value) := []
def Q_rec (Z : State) (a : Addr) (h0 : Heap) : Post := fun v h => v = none ∧ h0 = h
theorem pn_rec : plainFor (⟨"java/lang/Record", "<init>", "()V"⟩ : MethodName) = true := by first | (refine plainFor_of_name ?_; simp [plainName, overriddenIn]; done) | decide +kernel
set_option maxRecDepth 65536 in
set_option maxHeartbeats 40000000 in
theorem c_rec (l : Launch) (Z : State) (a0 : Array Value) (hw : ∀ d ∈ tables_1, d.before a0 Z = true) (a : Addr) (h0 : Heap) (n0 : Nat) (Z0 : n0 ≤ h0.size) :
    Con l Z (⟨"java/lang/Record", "<init>", "()V"⟩ : MethodName) jdk_30_method_1_code 1 (none : Option FieldType) ({ frames := 1, cells := 0, slots := 0, locals := 12 } : Room) #[(.ref a)] h0 n0 (Q_rec Z a h0) [] := by
  refine con_of_wp pn_rec (L0 := #[.val ((.ref a))]) (fun m => by first | (simp [entryFrame, mkF, argsToLocals, Value.category]; done) | rfl) (fun X hl ok => ?_)
  subst hl
  have hK : Konst Z a0 "java/lang/Record" k_rec := trivial
  refine wp_run ok hK (B := [(0, .aload_n 0, false)]) (by decide +kernel) (ps := []) (pc' := 1) (L' := #[.val ((.ref a))]) (S' := [(.ref a)]) rfl trivial ?_
  refine wp_initO ok (wd hw 53 rfl) (wd hw 8 rfl) (wd hw 9 rfl) (by rfl) (by decide +kernel) (by decide) (Nat.le_of_ble_eq_true rfl) ?_
  refine wp_retV ok (by decide +kernel) (by decide) (by decide) ?_
  exact ⟨rfl, rfl⟩
def k_lin : List (Nat × Value) := []
def Q_lin (Z : State) (a : Addr) (w : Int32) (f : Int64) (w0 : Int32) (f0 : Int64) (h0 : Heap) : Post := fun v h => v = none ∧ Keep h0 h [a] ∧ Fld Z h a "com/example/attestore/attestore/server/BlockIndex$Located" "file" "I" (.int w) ∧ Fld Z h a "com/example/attestore/attestore/server/BlockIndex$Located" "index" "J" (.long f)
theorem pn_lin : plainFor (⟨"com/example/attestore/attestore/server/BlockIndex$Located", "<init>", "(IJ)V"⟩ : MethodName) = true := by first | (refine plainFor_of_name ?_; simp [plainName, overriddenIn]; done) | decide +kernel
set_option maxRecDepth 65536 in
set_option maxHeartbeats 40000000 in
theorem c_lin (l : Launch) (Z : State) (a0 : Array Value) (hw : ∀ d ∈ tables_1, d.before a0 Z = true) (a : Addr) (w : Int32) (f : Int64) (w0 : Int32) (f0 : Int64) (h0 : Heap) (n0 : Nat) (Z0 : n0 ≤ h0.size) (E_a : Exa Z h0 a "com/example/attestore/attestore/server/BlockIndex$Located") (F_a_file : Fld Z h0 a "com/example/attestore/attestore/server/BlockIndex$Located" "file" "I" (.int w0)) (F_a_index : Fld Z h0 a "com/example/attestore/attestore/server/BlockIndex$Located" "index" "J" (.long f0)) (g_a : n0 ≤ a) :
    Con l Z (⟨"com/example/attestore/attestore/server/BlockIndex$Located", "<init>", "(IJ)V"⟩ : MethodName) prog_60_method_1_code 4 (none : Option FieldType) ({ frames := 2, cells := 0, slots := 0, locals := 24 } : Room) #[(.ref a), .int w, .long f] h0 n0 (Q_lin Z a w f w0 f0 h0) [] := by
  refine con_of_wp pn_lin (L0 := #[.val ((.ref a)), .val (.int w), .val (.long f), .second]) (fun m => by first | (simp [entryFrame, mkF, argsToLocals, Value.category]; done) | rfl) (fun X hl ok => ?_)
  subst hl
  have hK : Konst Z a0 "com/example/attestore/attestore/server/BlockIndex$Located" k_lin := trivial
  have K0 : Keep h0 h0 [a] := Keep.refl _ _
  refine wp_run ok hK (B := [(0, .aload_n 0, false)]) (by decide +kernel) (ps := []) (pc' := 1) (L' := #[.val ((.ref a)), .val (.int w), .val (.long f), .second]) (S' := [(.ref a)]) rfl trivial ?_
  refine wp_special ok rfl (wd hw 48 rfl) (wd hw 49 rfl) (wd hw 51 rfl) (wd hw 52 rfl) (by decide) (argsL := []) (rest := []) (c_rec _ Z a0 hw a h0 n0 Z0 ) (ps := []) (by decide +kernel) (by rfl) (by rfl) (by rfl) (by decide +kernel) (by decide) (Nat.le_of_ble_eq_true rfl) (by decide) (by decide) ?_
  intro r1 h2 q3
  obtain ⟨rfl, rfl⟩ := q3
  show WP X n0 (Q_lin Z a w f w0 f0 h0) h0 0 0 4 #[.val ((.ref a)), .val (.int w), .val (.long f), .second] []
  refine wp_run ok hK (B := [(4, .aload_n 0, false), (5, .iload_n 1, false)]) (by decide +kernel) (ps := []) (pc' := 6) (L' := #[.val ((.ref a)), .val (.int w), .val (.long f), .second]) (S' := [.int w, (.ref a)]) rfl trivial ?_
  refine wp_putF ok (wd hw 54 rfl) F_a_file E_a (Or.inr ⟨(wd hw 55 rfl), rfl, rfl⟩) (wd hw 43 rfl) (ty := .int) (by decide) rfl rfl (by decide +kernel) g_a ?_
  intro h4 W5
  have F6 := F_a_file.same W5
  have F7 := F_a_index.other W5 (Or.inr (slot_ne (C := "com/example/attestore/attestore/server/BlockIndex$Located") (a0 := a0) (Or.inr (wd hw 57 rfl)) (Or.inr (wd hw 55 rfl)) (by decide +kernel) (t := .long) (t' := .int) (by decide +kernel) (by decide +kernel)))
  have E8 := E_a.wr W5
  have Z9 : n0 ≤ h4.size := by rw [W5.size]; exact Z0
  have K10 := K0.wr W5 (Or.inl (by simp))
  refine wp_run ok hK (B := [(9, .aload_n 0, false), (10, .lload_n 2, false)]) (by decide +kernel) (ps := []) (pc' := 11) (L' := #[.val ((.ref a)), .val (.int w), .val (.long f), .second]) (S' := [.long f, (.ref a)]) rfl trivial ?_
  refine wp_putF ok (wd hw 56 rfl) F7 E8 (Or.inr ⟨(wd hw 57 rfl), rfl, rfl⟩) (wd hw 43 rfl) (ty := .long) (by decide) rfl rfl (by decide +kernel) g_a ?_
  intro h11 W12
  have F13 := F6.other W12 (Or.inr (slot_ne (C := "com/example/attestore/attestore/server/BlockIndex$Located") (a0 := a0) (Or.inr (wd hw 55 rfl)) (Or.inr (wd hw 57 rfl)) (by decide +kernel) (t := .int) (t' := .long) (by decide +kernel) (by decide +kernel)))
  have F14 := F7.same W12
  have E15 := E8.wr W12
  have Z16 : n0 ≤ h11.size := by rw [W12.size]; exact Z9
  have K17 := K10.wr W12 (Or.inl (by simp))
  refine wp_retV ok (by decide +kernel) (by decide) (by decide) ?_
  exact ⟨rfl, K17, F13, F14⟩
def k_loc : List (Nat × Value) := []
def Q_loc (Z : State) (a : Addr) (q : Int64) (n : Nat) (fl : Nat) (bl : Int64) (g : Nat → Int64) (m0 : Nat) (h0 : Heap) : Post := fun v h => ∃ (r : Addr) (rho : Nat) (gr : Int64), v = some (.ref r) ∧ h0.size ≤ h.size ∧ h0.size ≤ r ∧ gr = g rho ∧ rho < fl ∧ (g rho).toInt ≤ q.toInt ∧ (∀ k, rho < k → k < fl → q.toInt < (g k).toInt) ∧ Exa Z h r "com/example/attestore/attestore/server/BlockIndex$Located" ∧ Fld Z h r "com/example/attestore/attestore/server/BlockIndex$Located" "file" "I" (.int (Int32.ofNat (rho + 1))) ∧ Fld Z h r "com/example/attestore/attestore/server/BlockIndex$Located" "index" "J" (.long (q - gr))
theorem own_loc_1 (q : Int64) (n : Nat) (fl : Nat) (bl : Int64) (m0 : Nat) (p1 : 1 ≤ fl) (p2 : fl ≤ n) (p3 : n ≤ 32) (rho1 : Nat) (pp3 : rho1 < fl) : ((Int32.ofNat (rho1 + 1)) - (1 : Int32)).toInt = (rho1 : Int) := by
  have o1 : (1 : Int32).toInt = 1 := rfl
  rw [x_isub (by rw [own_nat (by omega), o1]; omega) (by rw [own_nat (by omega), o1]; omega), own_nat (by omega), o1]; omega
theorem pn_loc : plainFor (⟨"com/example/attestore/attestore/server/BlockIndex", "locate", "(J)Lcom/example/attestore/attestore/server/BlockIndex$Located;"⟩ : MethodName) = true := by first | (refine plainFor_of_name ?_; simp [plainName, overriddenIn]; done) | decide +kernel
set_option maxRecDepth 65536 in
set_option maxHeartbeats 40000000 in
theorem c_loc (l : Launch) (Z : State) (a0 : Array Value) (hw : ∀ d ∈ tables_1, d.before a0 Z = true) (a : Addr) (q : Int64) (n : Nat) (fl : Nat) (bl : Int64) (g : Nat → Int64) (m0 : Nat) (h0 : Heap) (n0 : Nat) (Z0 : n0 ≤ h0.size) (B0 : BX Z h0 a n fl bl g m0) (hm : n0 ≤ m0) (g_a : n0 ≤ a) (s0 : (g 0).toInt ≤ q.toInt) (srt : ∀ i j, i ≤ j → j < fl → (g i).toInt ≤ (g j).toInt) (p1 : 1 ≤ fl) (p2 : fl ≤ n) (p3 : n ≤ 32) :
    Con l Z (⟨"com/example/attestore/attestore/server/BlockIndex", "locate", "(J)Lcom/example/attestore/attestore/server/BlockIndex$Located;"⟩ : MethodName) prog_59_method_5_code 4 (some (.object "com/example/attestore/attestore/server/BlockIndex$Located")) ({ frames := 3, cells := 1, slots := 2, locals := 40 } : Room) #[(.ref a), .long q] h0 n0 (Q_loc Z a q n fl bl g m0 h0) [] := by
  refine con_of_wp pn_loc (L0 := #[.val ((.ref a)), .val (.long q), .second, .unset]) (fun m => by first | (simp [entryFrame, mkF, argsToLocals, Value.category]; done) | rfl) (fun X hl ok => ?_)
  subst hl
  have hK : Konst Z a0 "com/example/attestore/attestore/server/BlockIndex" k_loc := trivial
  have B1 := B0
  obtain ⟨E_a, ad, f, F1, F2, F3, A_ad, T, G, ga⟩ := B1
  have g_ad : n0 ≤ ad := Nat.le_trans hm ga
  have ne_a_ad : a ≠ ad := ne_ar E_a (wd hw 2 rfl) A_ad
  have K0 : Keep h0 h0 [] := Keep.refl _ _
  refine wp_run ok hK (B := [(0, .aload_n 0, false), (1, .lload_n 1, false)]) (by decide +kernel) (ps := []) (pc' := 2) (L' := #[.val ((.ref a)), .val (.long q), .second, .unset]) (S' := [.long q, (.ref a)]) rfl trivial ?_
  refine wp_private ok (wd hw 38 rfl) (wd hw 40 rfl) (wd hw 16 rfl) rfl (wd hw 39 rfl) (wd hw 3 rfl) (wd hw 41 rfl) (by decide) (argsL := [.long q]) (rest := []) E_a (c_fof _ Z a0 hw a q n fl bl g m0 h0 n0 Z0 B0 hm g_a s0 srt p1 p2 p3) (ps := [.long]) (by decide +kernel) (by rfl) (by rfl) (by rfl) (by decide +kernel) (by decide) (Nat.le_of_ble_eq_true rfl) (by decide) (by decide) ?_
  intro r6 h7 q8
  obtain ⟨rfl, rho1, rfl, pp3, pp4, pp5⟩ := q8
  show WP X n0 (Q_loc Z a q n fl bl g m0 h0) h0 0 0 5 #[.val ((.ref a)), .val (.long q), .second, .unset] [.int (Int32.ofNat (rho1 + 1))]
  refine wp_run ok hK (B := [(5, .istore_n 3, false)]) (by decide +kernel) (ps := []) (pc' := 6) (L' := #[.val ((.ref a)), .val (.long q), .second, .val (.int (Int32.ofNat (rho1 + 1)))]) (S' := []) rfl trivial ?_
  refine wp_new ok (wd hw 42 rfl) (wd hw 43 rfl) (wd hw 44 rfl) (by decide +kernel) (by decide) (by decide) ?_
  intro h9 a10 ea11 X12 E13 D14
  have E15 := E_a.ext X12
  have F16 := F1.ext X12
  have F17 := F2.ext X12
  have F18 := F3.ext X12
  have A19 := A_ad.ext X12
  have Z20 : n0 ≤ h9.size := Nat.le_trans Z0 X12.1
  have K21 := K0.ext X12
  have g22 : n0 ≤ a10 := by rw [ea11]; exact Z0
  have g23 : h0.size ≤ a10 := by rw [ea11]; exact K0.1
  have F24 : Fld Z h9 a10 "com/example/attestore/attestore/server/BlockIndex$Located" "file" "I" (.int (0 : Int32)) := D14 (Or.inr (wd hw 55 rfl)) (ty := .int) (by decide)
  have F25 : Fld Z h9 a10 "com/example/attestore/attestore/server/BlockIndex$Located" "index" "J" (.long (0 : Int64)) := D14 (Or.inr (wd hw 57 rfl)) (ty := .long) (by decide)
  refine wp_run ok hK (B := [(9, .dup, false), (10, .iload_n 3, false), (11, .lload_n 1, false), (12, .aload_n 0, false)]) (by decide +kernel) (ps := []) (pc' := 13) (L' := #[.val ((.ref a)), .val (.long q), .second, .val (.int (Int32.ofNat (rho1 + 1)))]) (S' := [(.ref a), .long q, .int (Int32.ofNat (rho1 + 1)), (.ref a10), (.ref a10)]) rfl trivial ?_
  refine wp_getF ok (wd hw 11 rfl) F16 (by decide +kernel) ?_
  refine wp_run ok hK (B := [(16, .iload_n 3, false), (17, .iconst 1, false), (18, .isub, false)]) (by decide +kernel) (ps := []) (pc' := 19) (L' := #[.val ((.ref a)), .val (.long q), .second, .val (.int (Int32.ofNat (rho1 + 1)))]) (S' := [.int ((Int32.ofNat (rho1 + 1)) - (1 : Int32)), (.ref ad), .long q, .int (Int32.ofNat (rho1 + 1)), (.ref a10), (.ref a10)]) rfl trivial ?_
  obtain ⟨gr, hgr⟩ : ∃ z : Int64, z = g rho1 := ⟨_, rfl⟩
  refine wp_aJ ok A19 (i := rho1) (own_loc_1 q n fl bl m0 p1 p2 p3 rho1 pp3) (by omega) (v := .long gr) (by rw [hgr]; exact G _ (by omega)) (by decide +kernel) ?_
  refine wp_run ok hK (B := [(20, .lsub, false)]) (by decide +kernel) (ps := []) (pc' := 21) (L' := #[.val ((.ref a)), .val (.long q), .second, .val (.int (Int32.ofNat (rho1 + 1)))]) (S' := [.long (q - gr), .int (Int32.ofNat (rho1 + 1)), (.ref a10), (.ref a10)]) rfl trivial ?_
  refine wp_special ok rfl (wd hw 45 rfl) (wd hw 46 rfl) (wd hw 44 rfl) (wd hw 47 rfl) (by decide) (argsL := [.int (Int32.ofNat (rho1 + 1)), .long (q - gr)]) (rest := [(.ref a10)]) (c_lin _ Z a0 hw a10 (Int32.ofNat (rho1 + 1)) (q - gr) (0 : Int32) (0 : Int64) h9 n0 Z20 E13 F24 F25 g22) (ps := [.int, .long]) (by decide +kernel) (by rfl) (by rfl) (by rfl) (by decide +kernel) (by decide) (Nat.le_of_ble_eq_true rfl) (by decide) (by decide) ?_
  intro r26 h27 q28
  obtain ⟨rfl, K29, F30, F31⟩ := q28
  have E32 := E15.keep K29
  have F33 := F16.keep K29 (by simp only [List.mem_cons, List.not_mem_nil, or_false, not_or]; exact (ne_new (E_a.lt) ea11))
  have F34 := F17.keep K29 (by simp only [List.mem_cons, List.not_mem_nil, or_false, not_or]; exact (ne_new (E_a.lt) ea11))
  have F35 := F18.keep K29 (by simp only [List.mem_cons, List.not_mem_nil, or_false, not_or]; exact (ne_new (E_a.lt) ea11))
  have E36 := E13.keep K29
  obtain ⟨file21, h_file21⟩ : ∃ z : Int32, z = (Int32.ofNat (rho1 + 1)) := ⟨_, rfl⟩
  rw [← h_file21] at F30
  obtain ⟨index21, h_index21⟩ : ∃ z : Int64, z = (q - gr) := ⟨_, rfl⟩
  rw [← h_index21] at F31
  have A37 := A19.keep K29 (by simp only [List.mem_cons, List.not_mem_nil, or_false, not_or]; exact (ne_new (A_ad.lt) ea11))
  have Z38 : n0 ≤ h27.size := Nat.le_trans Z20 K29.1
  have K39 := K21.trans K29 (allS (P := fun z => z ∈ [] ∨ h0.size ≤ z) (Or.inr g23) all0)
  show WP X n0 (Q_loc Z a q n fl bl g m0 h0) h27 1 2 24 #[.val ((.ref a)), .val (.long q), .second, .val (.int (Int32.ofNat (rho1 + 1)))] [(.ref a10)]
  refine wp_retA ok (by rfl) (by rfl) (by decide +kernel) (by decide) (by decide) ?_
  exact ⟨a10, rho1, gr, rfl, K39.1, g23, hgr, pp3, pp4, pp5, E36, Fld_c F30 (congrArg Value.int h_file21), Fld_c F31 (congrArg Value.long h_index21)⟩
def k_gfi : List (Nat × Value) := []
def Q_gfi (Z : State) (a : Addr) (w : Int32) (h0 : Heap) : Post := fun v h => v = some (.int w) ∧ h0 = h
theorem pn_gfi : plainFor (⟨"com/example/attestore/attestore/server/BlockIndex$Located", "file", "()I"⟩ : MethodName) = true := by first | (refine plainFor_of_name ?_; simp [plainName, overriddenIn]; done) | decide +kernel
set_option maxRecDepth 65536 in
set_option maxHeartbeats 40000000 in
theorem c_gfi (l : Launch) (Z : State) (a0 : Array Value) (hw : ∀ d ∈ tables_1, d.before a0 Z = true) (a : Addr) (w : Int32) (h0 : Heap) (n0 : Nat) (Z0 : n0 ≤ h0.size) (E_a : Exa Z h0 a "com/example/attestore/attestore/server/BlockIndex$Located") (F_a_file : Fld Z h0 a "com/example/attestore/attestore/server/BlockIndex$Located" "file" "I" (.int w)) (g_a : n0 ≤ a) :
    Con l Z (⟨"com/example/attestore/attestore/server/BlockIndex$Located", "file", "()I"⟩ : MethodName) prog_60_method_5_code 1 (some .int) ({ frames := 0, cells := 0, slots := 0, locals := 0 } : Room) #[(.ref a)] h0 n0 (Q_gfi Z a w h0) [] := by
  refine con_of_wp pn_gfi (L0 := #[.val ((.ref a))]) (fun m => by first | (simp [entryFrame, mkF, argsToLocals, Value.category]; done) | rfl) (fun X hl ok => ?_)
  subst hl
  have hK : Konst Z a0 "com/example/attestore/attestore/server/BlockIndex$Located" k_gfi := trivial
  refine wp_run ok hK (B := [(0, .aload_n 0, false)]) (by decide +kernel) (ps := []) (pc' := 1) (L' := #[.val ((.ref a))]) (S' := [(.ref a)]) rfl trivial ?_
  refine wp_getF ok (wd hw 54 rfl) F_a_file (by decide +kernel) ?_
  refine wp_retI ok (by decide +kernel) (by decide) (by decide) ?_
  exact ⟨rfl, rfl⟩
def k_gin : List (Nat × Value) := []
def Q_gin (Z : State) (a : Addr) (w : Int64) (h0 : Heap) : Post := fun v h => v = some (.long w) ∧ h0 = h
theorem pn_gin : plainFor (⟨"com/example/attestore/attestore/server/BlockIndex$Located", "index", "()J"⟩ : MethodName) = true := by first | (refine plainFor_of_name ?_; simp [plainName, overriddenIn]; done) | decide +kernel
set_option maxRecDepth 65536 in
set_option maxHeartbeats 40000000 in
theorem c_gin (l : Launch) (Z : State) (a0 : Array Value) (hw : ∀ d ∈ tables_1, d.before a0 Z = true) (a : Addr) (w : Int64) (h0 : Heap) (n0 : Nat) (Z0 : n0 ≤ h0.size) (E_a : Exa Z h0 a "com/example/attestore/attestore/server/BlockIndex$Located") (F_a_index : Fld Z h0 a "com/example/attestore/attestore/server/BlockIndex$Located" "index" "J" (.long w)) (g_a : n0 ≤ a) :
    Con l Z (⟨"com/example/attestore/attestore/server/BlockIndex$Located", "index", "()J"⟩ : MethodName) prog_60_method_6_code 1 (some .long) ({ frames := 0, cells := 0, slots := 0, locals := 0 } : Room) #[(.ref a)] h0 n0 (Q_gin Z a w h0) [] := by
  refine con_of_wp pn_gin (L0 := #[.val ((.ref a))]) (fun m => by first | (simp [entryFrame, mkF, argsToLocals, Value.category]; done) | rfl) (fun X hl ok => ?_)
  subst hl
  have hK : Konst Z a0 "com/example/attestore/attestore/server/BlockIndex$Located" k_gin := trivial
  refine wp_run ok hK (B := [(0, .aload_n 0, false)]) (by decide +kernel) (ps := []) (pc' := 1) (L' := #[.val ((.ref a))]) (S' := [(.ref a)]) rfl trivial ?_
  refine wp_getF ok (wd hw 56 rfl) F_a_index (by decide +kernel) ?_
  refine wp_retJ ok (by decide +kernel) (by decide) (by decide) ?_
  exact ⟨rfl, rfl⟩
def k_emp : List (Nat × Value) := [(13, .long (1099511627775 : Int64)), (32, .long (9223372036854775807 : Int64))]
def Q_emp (Z : State) (a : Addr) (g : Nat → Int64) (m0 : Nat) (h0 : Heap) : Post := fun v h => v = none ∧ h0.size ≤ h.size ∧ ∃ g2 : Nat → Int64, BX Z h a 16 14 (0 : Int64) g2 m0 ∧ ∀ i, i < 14 → g2 i = 1
theorem own_emp_1 (m0 : Nat) (bl2 : Int64) (h_bl2 : bl2 = ((0 : Int64) + (0 : Int64))) (bl7 : Int64) (h_bl7 : bl7 = (bl2 + (0 : Int64))) (bl12 : Int64) (h_bl12 : bl12 = (bl7 + (0 : Int64))) (bl17 : Int64) (h_bl17 : bl17 = (bl12 + (0 : Int64))) (bl22 : Int64) (h_bl22 : bl22 = (bl17 + (0 : Int64))) (bl27 : Int64) (h_bl27 : bl27 = (bl22 + (0 : Int64))) (bl32 : Int64) (h_bl32 : bl32 = (bl27 + (0 : Int64))) (bl37 : Int64) (h_bl37 : bl37 = (bl32 + (0 : Int64))) (bl42 : Int64) (h_bl42 : bl42 = (bl37 + (0 : Int64))) (bl47 : Int64) (h_bl47 : bl47 = (bl42 + (0 : Int64))) (bl52 : Int64) (h_bl52 : bl52 = (bl47 + (0 : Int64))) (bl57 : Int64) (h_bl57 : bl57 = (bl52 + (0 : Int64))) (bl62 : Int64) (h_bl62 : bl62 = (bl57 + (0 : Int64))) (bl67 : Int64) (h_bl67 : bl67 = (bl62 + (0 : Int64))) : bl2 = 0 := by
  subst_vars; decide
theorem own_emp_2 (m0 : Nat) (bl2 : Int64) (h_bl2 : bl2 = ((0 : Int64) + (0 : Int64))) (bl7 : Int64) (h_bl7 : bl7 = (bl2 + (0 : Int64))) (bl12 : Int64) (h_bl12 : bl12 = (bl7 + (0 : Int64))) (bl17 : Int64) (h_bl17 : bl17 = (bl12 + (0 : Int64))) (bl22 : Int64) (h_bl22 : bl22 = (bl17 + (0 : Int64))) (bl27 : Int64) (h_bl27 : bl27 = (bl22 + (0 : Int64))) (bl32 : Int64) (h_bl32 : bl32 = (bl27 + (0 : Int64))) (bl37 : Int64) (h_bl37 : bl37 = (bl32 + (0 : Int64))) (bl42 : Int64) (h_bl42 : bl42 = (bl37 + (0 : Int64))) (bl47 : Int64) (h_bl47 : bl47 = (bl42 + (0 : Int64))) (bl52 : Int64) (h_bl52 : bl52 = (bl47 + (0 : Int64))) (bl57 : Int64) (h_bl57 : bl57 = (bl52 + (0 : Int64))) (bl62 : Int64) (h_bl62 : bl62 = (bl57 + (0 : Int64))) (bl67 : Int64) (h_bl67 : bl67 = (bl62 + (0 : Int64))) : bl7 = 0 := by
  subst_vars; decide
theorem own_emp_3 (m0 : Nat) (bl2 : Int64) (h_bl2 : bl2 = ((0 : Int64) + (0 : Int64))) (bl7 : Int64) (h_bl7 : bl7 = (bl2 + (0 : Int64))) (bl12 : Int64) (h_bl12 : bl12 = (bl7 + (0 : Int64))) (bl17 : Int64) (h_bl17 : bl17 = (bl12 + (0 : Int64))) (bl22 : Int64) (h_bl22 : bl22 = (bl17 + (0 : Int64))) (bl27 : Int64) (h_bl27 : bl27 = (bl22 + (0 : Int64))) (bl32 : Int64) (h_bl32 : bl32 = (bl27 + (0 : Int64))) (bl37 : Int64) (h_bl37 : bl37 = (bl32 + (0 : Int64))) (bl42 : Int64) (h_bl42 : bl42 = (bl37 + (0 : Int64))) (bl47 : Int64) (h_bl47 : bl47 = (bl42 + (0 : Int64))) (bl52 : Int64) (h_bl52 : bl52 = (bl47 + (0 : Int64))) (bl57 : Int64) (h_bl57 : bl57 = (bl52 + (0 : Int64))) (bl62 : Int64) (h_bl62 : bl62 = (bl57 + (0 : Int64))) (bl67 : Int64) (h_bl67 : bl67 = (bl62 + (0 : Int64))) : bl12 = 0 := by
  subst_vars; decide
theorem own_emp_4 (m0 : Nat) (bl2 : Int64) (h_bl2 : bl2 = ((0 : Int64) + (0 : Int64))) (bl7 : Int64) (h_bl7 : bl7 = (bl2 + (0 : Int64))) (bl12 : Int64) (h_bl12 : bl12 = (bl7 + (0 : Int64))) (bl17 : Int64) (h_bl17 : bl17 = (bl12 + (0 : Int64))) (bl22 : Int64) (h_bl22 : bl22 = (bl17 + (0 : Int64))) (bl27 : Int64) (h_bl27 : bl27 = (bl22 + (0 : Int64))) (bl32 : Int64) (h_bl32 : bl32 = (bl27 + (0 : Int64))) (bl37 : Int64) (h_bl37 : bl37 = (bl32 + (0 : Int64))) (bl42 : Int64) (h_bl42 : bl42 = (bl37 + (0 : Int64))) (bl47 : Int64) (h_bl47 : bl47 = (bl42 + (0 : Int64))) (bl52 : Int64) (h_bl52 : bl52 = (bl47 + (0 : Int64))) (bl57 : Int64) (h_bl57 : bl57 = (bl52 + (0 : Int64))) (bl62 : Int64) (h_bl62 : bl62 = (bl57 + (0 : Int64))) (bl67 : Int64) (h_bl67 : bl67 = (bl62 + (0 : Int64))) : bl17 = 0 := by
  subst_vars; decide
theorem own_emp_5 (m0 : Nat) (bl2 : Int64) (h_bl2 : bl2 = ((0 : Int64) + (0 : Int64))) (bl7 : Int64) (h_bl7 : bl7 = (bl2 + (0 : Int64))) (bl12 : Int64) (h_bl12 : bl12 = (bl7 + (0 : Int64))) (bl17 : Int64) (h_bl17 : bl17 = (bl12 + (0 : Int64))) (bl22 : Int64) (h_bl22 : bl22 = (bl17 + (0 : Int64))) (bl27 : Int64) (h_bl27 : bl27 = (bl22 + (0 : Int64))) (bl32 : Int64) (h_bl32 : bl32 = (bl27 + (0 : Int64))) (bl37 : Int64) (h_bl37 : bl37 = (bl32 + (0 : Int64))) (bl42 : Int64) (h_bl42 : bl42 = (bl37 + (0 : Int64))) (bl47 : Int64) (h_bl47 : bl47 = (bl42 + (0 : Int64))) (bl52 : Int64) (h_bl52 : bl52 = (bl47 + (0 : Int64))) (bl57 : Int64) (h_bl57 : bl57 = (bl52 + (0 : Int64))) (bl62 : Int64) (h_bl62 : bl62 = (bl57 + (0 : Int64))) (bl67 : Int64) (h_bl67 : bl67 = (bl62 + (0 : Int64))) : bl22 = 0 := by
  subst_vars; decide
theorem own_emp_6 (m0 : Nat) (bl2 : Int64) (h_bl2 : bl2 = ((0 : Int64) + (0 : Int64))) (bl7 : Int64) (h_bl7 : bl7 = (bl2 + (0 : Int64))) (bl12 : Int64) (h_bl12 : bl12 = (bl7 + (0 : Int64))) (bl17 : Int64) (h_bl17 : bl17 = (bl12 + (0 : Int64))) (bl22 : Int64) (h_bl22 : bl22 = (bl17 + (0 : Int64))) (bl27 : Int64) (h_bl27 : bl27 = (bl22 + (0 : Int64))) (bl32 : Int64) (h_bl32 : bl32 = (bl27 + (0 : Int64))) (bl37 : Int64) (h_bl37 : bl37 = (bl32 + (0 : Int64))) (bl42 : Int64) (h_bl42 : bl42 = (bl37 + (0 : Int64))) (bl47 : Int64) (h_bl47 : bl47 = (bl42 + (0 : Int64))) (bl52 : Int64) (h_bl52 : bl52 = (bl47 + (0 : Int64))) (bl57 : Int64) (h_bl57 : bl57 = (bl52 + (0 : Int64))) (bl62 : Int64) (h_bl62 : bl62 = (bl57 + (0 : Int64))) (bl67 : Int64) (h_bl67 : bl67 = (bl62 + (0 : Int64))) : bl27 = 0 := by
  subst_vars; decide
theorem own_emp_7 (m0 : Nat) (bl2 : Int64) (h_bl2 : bl2 = ((0 : Int64) + (0 : Int64))) (bl7 : Int64) (h_bl7 : bl7 = (bl2 + (0 : Int64))) (bl12 : Int64) (h_bl12 : bl12 = (bl7 + (0 : Int64))) (bl17 : Int64) (h_bl17 : bl17 = (bl12 + (0 : Int64))) (bl22 : Int64) (h_bl22 : bl22 = (bl17 + (0 : Int64))) (bl27 : Int64) (h_bl27 : bl27 = (bl22 + (0 : Int64))) (bl32 : Int64) (h_bl32 : bl32 = (bl27 + (0 : Int64))) (bl37 : Int64) (h_bl37 : bl37 = (bl32 + (0 : Int64))) (bl42 : Int64) (h_bl42 : bl42 = (bl37 + (0 : Int64))) (bl47 : Int64) (h_bl47 : bl47 = (bl42 + (0 : Int64))) (bl52 : Int64) (h_bl52 : bl52 = (bl47 + (0 : Int64))) (bl57 : Int64) (h_bl57 : bl57 = (bl52 + (0 : Int64))) (bl62 : Int64) (h_bl62 : bl62 = (bl57 + (0 : Int64))) (bl67 : Int64) (h_bl67 : bl67 = (bl62 + (0 : Int64))) : bl32 = 0 := by
  subst_vars; decide
theorem own_emp_8 (m0 : Nat) (bl2 : Int64) (h_bl2 : bl2 = ((0 : Int64) + (0 : Int64))) (bl7 : Int64) (h_bl7 : bl7 = (bl2 + (0 : Int64))) (bl12 : Int64) (h_bl12 : bl12 = (bl7 + (0 : Int64))) (bl17 : Int64) (h_bl17 : bl17 = (bl12 + (0 : Int64))) (bl22 : Int64) (h_bl22 : bl22 = (bl17 + (0 : Int64))) (bl27 : Int64) (h_bl27 : bl27 = (bl22 + (0 : Int64))) (bl32 : Int64) (h_bl32 : bl32 = (bl27 + (0 : Int64))) (bl37 : Int64) (h_bl37 : bl37 = (bl32 + (0 : Int64))) (bl42 : Int64) (h_bl42 : bl42 = (bl37 + (0 : Int64))) (bl47 : Int64) (h_bl47 : bl47 = (bl42 + (0 : Int64))) (bl52 : Int64) (h_bl52 : bl52 = (bl47 + (0 : Int64))) (bl57 : Int64) (h_bl57 : bl57 = (bl52 + (0 : Int64))) (bl62 : Int64) (h_bl62 : bl62 = (bl57 + (0 : Int64))) (bl67 : Int64) (h_bl67 : bl67 = (bl62 + (0 : Int64))) : bl37 = 0 := by
  subst_vars; decide
theorem own_emp_9 (m0 : Nat) (bl2 : Int64) (h_bl2 : bl2 = ((0 : Int64) + (0 : Int64))) (bl7 : Int64) (h_bl7 : bl7 = (bl2 + (0 : Int64))) (bl12 : Int64) (h_bl12 : bl12 = (bl7 + (0 : Int64))) (bl17 : Int64) (h_bl17 : bl17 = (bl12 + (0 : Int64))) (bl22 : Int64) (h_bl22 : bl22 = (bl17 + (0 : Int64))) (bl27 : Int64) (h_bl27 : bl27 = (bl22 + (0 : Int64))) (bl32 : Int64) (h_bl32 : bl32 = (bl27 + (0 : Int64))) (bl37 : Int64) (h_bl37 : bl37 = (bl32 + (0 : Int64))) (bl42 : Int64) (h_bl42 : bl42 = (bl37 + (0 : Int64))) (bl47 : Int64) (h_bl47 : bl47 = (bl42 + (0 : Int64))) (bl52 : Int64) (h_bl52 : bl52 = (bl47 + (0 : Int64))) (bl57 : Int64) (h_bl57 : bl57 = (bl52 + (0 : Int64))) (bl62 : Int64) (h_bl62 : bl62 = (bl57 + (0 : Int64))) (bl67 : Int64) (h_bl67 : bl67 = (bl62 + (0 : Int64))) : bl42 = 0 := by
  subst_vars; decide
theorem own_emp_10 (m0 : Nat) (bl2 : Int64) (h_bl2 : bl2 = ((0 : Int64) + (0 : Int64))) (bl7 : Int64) (h_bl7 : bl7 = (bl2 + (0 : Int64))) (bl12 : Int64) (h_bl12 : bl12 = (bl7 + (0 : Int64))) (bl17 : Int64) (h_bl17 : bl17 = (bl12 + (0 : Int64))) (bl22 : Int64) (h_bl22 : bl22 = (bl17 + (0 : Int64))) (bl27 : Int64) (h_bl27 : bl27 = (bl22 + (0 : Int64))) (bl32 : Int64) (h_bl32 : bl32 = (bl27 + (0 : Int64))) (bl37 : Int64) (h_bl37 : bl37 = (bl32 + (0 : Int64))) (bl42 : Int64) (h_bl42 : bl42 = (bl37 + (0 : Int64))) (bl47 : Int64) (h_bl47 : bl47 = (bl42 + (0 : Int64))) (bl52 : Int64) (h_bl52 : bl52 = (bl47 + (0 : Int64))) (bl57 : Int64) (h_bl57 : bl57 = (bl52 + (0 : Int64))) (bl62 : Int64) (h_bl62 : bl62 = (bl57 + (0 : Int64))) (bl67 : Int64) (h_bl67 : bl67 = (bl62 + (0 : Int64))) : bl47 = 0 := by
  subst_vars; decide
theorem own_emp_11 (m0 : Nat) (bl2 : Int64) (h_bl2 : bl2 = ((0 : Int64) + (0 : Int64))) (bl7 : Int64) (h_bl7 : bl7 = (bl2 + (0 : Int64))) (bl12 : Int64) (h_bl12 : bl12 = (bl7 + (0 : Int64))) (bl17 : Int64) (h_bl17 : bl17 = (bl12 + (0 : Int64))) (bl22 : Int64) (h_bl22 : bl22 = (bl17 + (0 : Int64))) (bl27 : Int64) (h_bl27 : bl27 = (bl22 + (0 : Int64))) (bl32 : Int64) (h_bl32 : bl32 = (bl27 + (0 : Int64))) (bl37 : Int64) (h_bl37 : bl37 = (bl32 + (0 : Int64))) (bl42 : Int64) (h_bl42 : bl42 = (bl37 + (0 : Int64))) (bl47 : Int64) (h_bl47 : bl47 = (bl42 + (0 : Int64))) (bl52 : Int64) (h_bl52 : bl52 = (bl47 + (0 : Int64))) (bl57 : Int64) (h_bl57 : bl57 = (bl52 + (0 : Int64))) (bl62 : Int64) (h_bl62 : bl62 = (bl57 + (0 : Int64))) (bl67 : Int64) (h_bl67 : bl67 = (bl62 + (0 : Int64))) : bl52 = 0 := by
  subst_vars; decide
theorem own_emp_12 (m0 : Nat) (bl2 : Int64) (h_bl2 : bl2 = ((0 : Int64) + (0 : Int64))) (bl7 : Int64) (h_bl7 : bl7 = (bl2 + (0 : Int64))) (bl12 : Int64) (h_bl12 : bl12 = (bl7 + (0 : Int64))) (bl17 : Int64) (h_bl17 : bl17 = (bl12 + (0 : Int64))) (bl22 : Int64) (h_bl22 : bl22 = (bl17 + (0 : Int64))) (bl27 : Int64) (h_bl27 : bl27 = (bl22 + (0 : Int64))) (bl32 : Int64) (h_bl32 : bl32 = (bl27 + (0 : Int64))) (bl37 : Int64) (h_bl37 : bl37 = (bl32 + (0 : Int64))) (bl42 : Int64) (h_bl42 : bl42 = (bl37 + (0 : Int64))) (bl47 : Int64) (h_bl47 : bl47 = (bl42 + (0 : Int64))) (bl52 : Int64) (h_bl52 : bl52 = (bl47 + (0 : Int64))) (bl57 : Int64) (h_bl57 : bl57 = (bl52 + (0 : Int64))) (bl62 : Int64) (h_bl62 : bl62 = (bl57 + (0 : Int64))) (bl67 : Int64) (h_bl67 : bl67 = (bl62 + (0 : Int64))) : bl57 = 0 := by
  subst_vars; decide
theorem own_emp_13 (m0 : Nat) (bl2 : Int64) (h_bl2 : bl2 = ((0 : Int64) + (0 : Int64))) (bl7 : Int64) (h_bl7 : bl7 = (bl2 + (0 : Int64))) (bl12 : Int64) (h_bl12 : bl12 = (bl7 + (0 : Int64))) (bl17 : Int64) (h_bl17 : bl17 = (bl12 + (0 : Int64))) (bl22 : Int64) (h_bl22 : bl22 = (bl17 + (0 : Int64))) (bl27 : Int64) (h_bl27 : bl27 = (bl22 + (0 : Int64))) (bl32 : Int64) (h_bl32 : bl32 = (bl27 + (0 : Int64))) (bl37 : Int64) (h_bl37 : bl37 = (bl32 + (0 : Int64))) (bl42 : Int64) (h_bl42 : bl42 = (bl37 + (0 : Int64))) (bl47 : Int64) (h_bl47 : bl47 = (bl42 + (0 : Int64))) (bl52 : Int64) (h_bl52 : bl52 = (bl47 + (0 : Int64))) (bl57 : Int64) (h_bl57 : bl57 = (bl52 + (0 : Int64))) (bl62 : Int64) (h_bl62 : bl62 = (bl57 + (0 : Int64))) (bl67 : Int64) (h_bl67 : bl67 = (bl62 + (0 : Int64))) : bl62 = 0 := by
  subst_vars; decide
theorem own_emp_14 (m0 : Nat) (bl2 : Int64) (h_bl2 : bl2 = ((0 : Int64) + (0 : Int64))) (bl7 : Int64) (h_bl7 : bl7 = (bl2 + (0 : Int64))) (bl12 : Int64) (h_bl12 : bl12 = (bl7 + (0 : Int64))) (bl17 : Int64) (h_bl17 : bl17 = (bl12 + (0 : Int64))) (bl22 : Int64) (h_bl22 : bl22 = (bl17 + (0 : Int64))) (bl27 : Int64) (h_bl27 : bl27 = (bl22 + (0 : Int64))) (bl32 : Int64) (h_bl32 : bl32 = (bl27 + (0 : Int64))) (bl37 : Int64) (h_bl37 : bl37 = (bl32 + (0 : Int64))) (bl42 : Int64) (h_bl42 : bl42 = (bl37 + (0 : Int64))) (bl47 : Int64) (h_bl47 : bl47 = (bl42 + (0 : Int64))) (bl52 : Int64) (h_bl52 : bl52 = (bl47 + (0 : Int64))) (bl57 : Int64) (h_bl57 : bl57 = (bl52 + (0 : Int64))) (bl62 : Int64) (h_bl62 : bl62 = (bl57 + (0 : Int64))) (bl67 : Int64) (h_bl67 : bl67 = (bl62 + (0 : Int64))) : bl67 = 0 := by
  subst_vars; decide
theorem pn_emp : plainFor (⟨"com/example/attestore/attestore/server/BlockIndexAddPinLaw", "addEmpty14", "(Lcom/example/attestore/attestore/server/BlockIndex;)V"⟩ : MethodName) = true := by first | (refine plainFor_of_name ?_; simp [plainName, overriddenIn]; done) | decide +kernel
set_option maxRecDepth 65536 in
set_option maxHeartbeats 40000000 in
theorem c_emp (l : Launch) (Z : State) (a0 : Array Value) (hw : ∀ d ∈ tables_1, d.before a0 Z = true) (a : Addr) (g : Nat → Int64) (m0 : Nat) (h0 : Heap) (n0 : Nat) (Z0 : n0 ≤ h0.size) (B0 : BX Z h0 a 16 0 (0 : Int64) g m0) (hm : n0 ≤ m0) (g_a : n0 ≤ a) :
    Con l Z (⟨"com/example/attestore/attestore/server/BlockIndexAddPinLaw", "addEmpty14", "(Lcom/example/attestore/attestore/server/BlockIndex;)V"⟩ : MethodName) method_2_code 1 (none : Option FieldType) ({ frames := 1, cells := 0, slots := 0, locals := 14 } : Room) #[(.ref a)] h0 n0 (Q_emp Z a g m0 h0) [] := by
  refine con_of_wp pn_emp (L0 := #[.val ((.ref a))]) (fun m => by first | (simp [entryFrame, mkF, argsToLocals, Value.category]; done) | rfl) (fun X hl ok => ?_)
  subst hl
  have hK : Konst Z a0 "com/example/attestore/attestore/server/BlockIndexAddPinLaw" k_emp := ⟨Or.inr ⟨_, rfl, wd hw 0 rfl⟩, ⟨Or.inr ⟨_, rfl, wd hw 32 rfl⟩, trivial⟩⟩
  refine wp_run ok hK (B := [(0, .aload_n 0, false), (1, .lconst 0, false)]) (by decide +kernel) (ps := []) (pc' := 2) (L' := #[.val ((.ref a))]) (S' := [.long (0 : Int64), (.ref a)]) rfl trivial ?_
  refine wp_virtual ok (wd hw 13 rfl) (wd hw 14 rfl) (wd hw 16 rfl) (wd hw 15 rfl) (wd hw 3 rfl) (wd hw 17 rfl) (by decide) (argsL := [.long (0 : Int64)]) (rest := []) B0.1 (c_ad1 _ Z a0 hw a (0 : Int64) 16 0 (0 : Int64) g m0 h0 n0 Z0 B0 hm g_a (by decide) (by decide)) (ps := [.long]) (by decide +kernel) (by rfl) (by rfl) (by rfl) (by decide +kernel) (by decide) (Nat.le_of_ble_eq_true rfl) (by decide) (by decide) ?_
  intro r6 h7 q8
  obtain ⟨rfl, z1, gf2, B3, e4, e5⟩ := q8
  obtain ⟨bl2, h_bl2⟩ : ∃ z : Int64, z = ((0 : Int64) + (0 : Int64)) := ⟨_, rfl⟩
  rw [← h_bl2] at B3
  have B9 : BX Z h7 a 16 1 bl2 gf2 m0 := B3
  have Z10 : n0 ≤ h7.size := Nat.le_trans Z0 z1
  show WP X n0 (Q_emp Z a g m0 h0) h7 0 0 5 #[.val ((.ref a))] []
  refine wp_run ok hK (B := [(5, .aload_n 0, false), (6, .lconst 0, false)]) (by decide +kernel) (ps := []) (pc' := 7) (L' := #[.val ((.ref a))]) (S' := [.long (0 : Int64), (.ref a)]) rfl trivial ?_
  refine wp_virtual ok (wd hw 13 rfl) (wd hw 14 rfl) (wd hw 16 rfl) (wd hw 15 rfl) (wd hw 3 rfl) (wd hw 17 rfl) (by decide) (argsL := [.long (0 : Int64)]) (rest := []) B9.1 (c_ad1 _ Z a0 hw a (0 : Int64) 16 1 bl2 gf2 m0 h7 n0 Z10 B9 hm g_a (by decide) (by decide)) (ps := [.long]) (by decide +kernel) (by rfl) (by rfl) (by rfl) (by decide +kernel) (by decide) (Nat.le_of_ble_eq_true rfl) (by decide) (by decide) ?_
  intro r16 h17 q18
  obtain ⟨rfl, z11, gf12, B13, e14, e15⟩ := q18
  obtain ⟨bl7, h_bl7⟩ : ∃ z : Int64, z = (bl2 + (0 : Int64)) := ⟨_, rfl⟩
  rw [← h_bl7] at B13
  have B19 : BX Z h17 a 16 2 bl7 gf12 m0 := B13
  have Z20 : n0 ≤ h17.size := Nat.le_trans Z10 z11
  show WP X n0 (Q_emp Z a g m0 h0) h17 0 0 10 #[.val ((.ref a))] []
  refine wp_run ok hK (B := [(10, .aload_n 0, false), (11, .lconst 0, false)]) (by decide +kernel) (ps := []) (pc' := 12) (L' := #[.val ((.ref a))]) (S' := [.long (0 : Int64), (.ref a)]) rfl trivial ?_
  refine wp_virtual ok (wd hw 13 rfl) (wd hw 14 rfl) (wd hw 16 rfl) (wd hw 15 rfl) (wd hw 3 rfl) (wd hw 17 rfl) (by decide) (argsL := [.long (0 : Int64)]) (rest := []) B19.1 (c_ad1 _ Z a0 hw a (0 : Int64) 16 2 bl7 gf12 m0 h17 n0 Z20 B19 hm g_a (by decide) (by decide)) (ps := [.long]) (by decide +kernel) (by rfl) (by rfl) (by rfl) (by decide +kernel) (by decide) (Nat.le_of_ble_eq_true rfl) (by decide) (by decide) ?_
  intro r26 h27 q28
  obtain ⟨rfl, z21, gf22, B23, e24, e25⟩ := q28
  obtain ⟨bl12, h_bl12⟩ : ∃ z : Int64, z = (bl7 + (0 : Int64)) := ⟨_, rfl⟩
  rw [← h_bl12] at B23
  have B29 : BX Z h27 a 16 3 bl12 gf22 m0 := B23
  have Z30 : n0 ≤ h27.size := Nat.le_trans Z20 z21
  show WP X n0 (Q_emp Z a g m0 h0) h27 0 0 15 #[.val ((.ref a))] []
  refine wp_run ok hK (B := [(15, .aload_n 0, false), (16, .lconst 0, false)]) (by decide +kernel) (ps := []) (pc' := 17) (L' := #[.val ((.ref a))]) (S' := [.long (0 : Int64), (.ref a)]) rfl trivial ?_
  refine wp_virtual ok (wd hw 13 rfl) (wd hw 14 rfl) (wd hw 16 rfl) (wd hw 15 rfl) (wd hw 3 rfl) (wd hw 17 rfl) (by decide) (argsL := [.long (0 : Int64)]) (rest := []) B29.1 (c_ad1 _ Z a0 hw a (0 : Int64) 16 3 bl12 gf22 m0 h27 n0 Z30 B29 hm g_a (by decide) (by decide)) (ps := [.long]) (by decide +kernel) (by rfl) (by rfl) (by rfl) (by decide +kernel) (by decide) (Nat.le_of_ble_eq_true rfl) (by decide) (by decide) ?_
  intro r36 h37 q38
  obtain ⟨rfl, z31, gf32, B33, e34, e35⟩ := q38
  obtain ⟨bl17, h_bl17⟩ : ∃ z : Int64, z = (bl12 + (0 : Int64)) := ⟨_, rfl⟩
  rw [← h_bl17] at B33
  have B39 : BX Z h37 a 16 4 bl17 gf32 m0 := B33
  have Z40 : n0 ≤ h37.size := Nat.le_trans Z30 z31
  show WP X n0 (Q_emp Z a g m0 h0) h37 0 0 20 #[.val ((.ref a))] []
  refine wp_run ok hK (B := [(20, .aload_n 0, false), (21, .lconst 0, false)]) (by decide +kernel) (ps := []) (pc' := 22) (L' := #[.val ((.ref a))]) (S' := [.long (0 : Int64), (.ref a)]) rfl trivial ?_
  refine wp_virtual ok (wd hw 13 rfl) (wd hw 14 rfl) (wd hw 16 rfl) (wd hw 15 rfl) (wd hw 3 rfl) (wd hw 17 rfl) (by decide) (argsL := [.long (0 : Int64)]) (rest := []) B39.1 (c_ad1 _ Z a0 hw a (0 : Int64) 16 4 bl17 gf32 m0 h37 n0 Z40 B39 hm g_a (by decide) (by decide)) (ps := [.long]) (by decide +kernel) (by rfl) (by rfl) (by rfl) (by decide +kernel) (by decide) (Nat.le_of_ble_eq_true rfl) (by decide) (by decide) ?_
  intro r46 h47 q48
  obtain ⟨rfl, z41, gf42, B43, e44, e45⟩ := q48
  obtain ⟨bl22, h_bl22⟩ : ∃ z : Int64, z = (bl17 + (0 : Int64)) := ⟨_, rfl⟩
  rw [← h_bl22] at B43
  have B49 : BX Z h47 a 16 5 bl22 gf42 m0 := B43
  have Z50 : n0 ≤ h47.size := Nat.le_trans Z40 z41
  show WP X n0 (Q_emp Z a g m0 h0) h47 0 0 25 #[.val ((.ref a))] []
  refine wp_run ok hK (B := [(25, .aload_n 0, false), (26, .lconst 0, false)]) (by decide +kernel) (ps := []) (pc' := 27) (L' := #[.val ((.ref a))]) (S' := [.long (0 : Int64), (.ref a)]) rfl trivial ?_
  refine wp_virtual ok (wd hw 13 rfl) (wd hw 14 rfl) (wd hw 16 rfl) (wd hw 15 rfl) (wd hw 3 rfl) (wd hw 17 rfl) (by decide) (argsL := [.long (0 : Int64)]) (rest := []) B49.1 (c_ad1 _ Z a0 hw a (0 : Int64) 16 5 bl22 gf42 m0 h47 n0 Z50 B49 hm g_a (by decide) (by decide)) (ps := [.long]) (by decide +kernel) (by rfl) (by rfl) (by rfl) (by decide +kernel) (by decide) (Nat.le_of_ble_eq_true rfl) (by decide) (by decide) ?_
  intro r56 h57 q58
  obtain ⟨rfl, z51, gf52, B53, e54, e55⟩ := q58
  obtain ⟨bl27, h_bl27⟩ : ∃ z : Int64, z = (bl22 + (0 : Int64)) := ⟨_, rfl⟩
  rw [← h_bl27] at B53
  have B59 : BX Z h57 a 16 6 bl27 gf52 m0 := B53
  have Z60 : n0 ≤ h57.size := Nat.le_trans Z50 z51
  show WP X n0 (Q_emp Z a g m0 h0) h57 0 0 30 #[.val ((.ref a))] []
  refine wp_run ok hK (B := [(30, .aload_n 0, false), (31, .lconst 0, false)]) (by decide +kernel) (ps := []) (pc' := 32) (L' := #[.val ((.ref a))]) (S' := [.long (0 : Int64), (.ref a)]) rfl trivial ?_
  refine wp_virtual ok (wd hw 13 rfl) (wd hw 14 rfl) (wd hw 16 rfl) (wd hw 15 rfl) (wd hw 3 rfl) (wd hw 17 rfl) (by decide) (argsL := [.long (0 : Int64)]) (rest := []) B59.1 (c_ad1 _ Z a0 hw a (0 : Int64) 16 6 bl27 gf52 m0 h57 n0 Z60 B59 hm g_a (by decide) (by decide)) (ps := [.long]) (by decide +kernel) (by rfl) (by rfl) (by rfl) (by decide +kernel) (by decide) (Nat.le_of_ble_eq_true rfl) (by decide) (by decide) ?_
  intro r66 h67 q68
  obtain ⟨rfl, z61, gf62, B63, e64, e65⟩ := q68
  obtain ⟨bl32, h_bl32⟩ : ∃ z : Int64, z = (bl27 + (0 : Int64)) := ⟨_, rfl⟩
  rw [← h_bl32] at B63
  have B69 : BX Z h67 a 16 7 bl32 gf62 m0 := B63
  have Z70 : n0 ≤ h67.size := Nat.le_trans Z60 z61
  show WP X n0 (Q_emp Z a g m0 h0) h67 0 0 35 #[.val ((.ref a))] []
  refine wp_run ok hK (B := [(35, .aload_n 0, false), (36, .lconst 0, false)]) (by decide +kernel) (ps := []) (pc' := 37) (L' := #[.val ((.ref a))]) (S' := [.long (0 : Int64), (.ref a)]) rfl trivial ?_
  refine wp_virtual ok (wd hw 13 rfl) (wd hw 14 rfl) (wd hw 16 rfl) (wd hw 15 rfl) (wd hw 3 rfl) (wd hw 17 rfl) (by decide) (argsL := [.long (0 : Int64)]) (rest := []) B69.1 (c_ad1 _ Z a0 hw a (0 : Int64) 16 7 bl32 gf62 m0 h67 n0 Z70 B69 hm g_a (by decide) (by decide)) (ps := [.long]) (by decide +kernel) (by rfl) (by rfl) (by rfl) (by decide +kernel) (by decide) (Nat.le_of_ble_eq_true rfl) (by decide) (by decide) ?_
  intro r76 h77 q78
  obtain ⟨rfl, z71, gf72, B73, e74, e75⟩ := q78
  obtain ⟨bl37, h_bl37⟩ : ∃ z : Int64, z = (bl32 + (0 : Int64)) := ⟨_, rfl⟩
  rw [← h_bl37] at B73
  have B79 : BX Z h77 a 16 8 bl37 gf72 m0 := B73
  have Z80 : n0 ≤ h77.size := Nat.le_trans Z70 z71
  show WP X n0 (Q_emp Z a g m0 h0) h77 0 0 40 #[.val ((.ref a))] []
  refine wp_run ok hK (B := [(40, .aload_n 0, false), (41, .lconst 0, false)]) (by decide +kernel) (ps := []) (pc' := 42) (L' := #[.val ((.ref a))]) (S' := [.long (0 : Int64), (.ref a)]) rfl trivial ?_
  refine wp_virtual ok (wd hw 13 rfl) (wd hw 14 rfl) (wd hw 16 rfl) (wd hw 15 rfl) (wd hw 3 rfl) (wd hw 17 rfl) (by decide) (argsL := [.long (0 : Int64)]) (rest := []) B79.1 (c_ad1 _ Z a0 hw a (0 : Int64) 16 8 bl37 gf72 m0 h77 n0 Z80 B79 hm g_a (by decide) (by decide)) (ps := [.long]) (by decide +kernel) (by rfl) (by rfl) (by rfl) (by decide +kernel) (by decide) (Nat.le_of_ble_eq_true rfl) (by decide) (by decide) ?_
  intro r86 h87 q88
  obtain ⟨rfl, z81, gf82, B83, e84, e85⟩ := q88
  obtain ⟨bl42, h_bl42⟩ : ∃ z : Int64, z = (bl37 + (0 : Int64)) := ⟨_, rfl⟩
  rw [← h_bl42] at B83
  have B89 : BX Z h87 a 16 9 bl42 gf82 m0 := B83
  have Z90 : n0 ≤ h87.size := Nat.le_trans Z80 z81
  show WP X n0 (Q_emp Z a g m0 h0) h87 0 0 45 #[.val ((.ref a))] []
  refine wp_run ok hK (B := [(45, .aload_n 0, false), (46, .lconst 0, false)]) (by decide +kernel) (ps := []) (pc' := 47) (L' := #[.val ((.ref a))]) (S' := [.long (0 : Int64), (.ref a)]) rfl trivial ?_
  refine wp_virtual ok (wd hw 13 rfl) (wd hw 14 rfl) (wd hw 16 rfl) (wd hw 15 rfl) (wd hw 3 rfl) (wd hw 17 rfl) (by decide) (argsL := [.long (0 : Int64)]) (rest := []) B89.1 (c_ad1 _ Z a0 hw a (0 : Int64) 16 9 bl42 gf82 m0 h87 n0 Z90 B89 hm g_a (by decide) (by decide)) (ps := [.long]) (by decide +kernel) (by rfl) (by rfl) (by rfl) (by decide +kernel) (by decide) (Nat.le_of_ble_eq_true rfl) (by decide) (by decide) ?_
  intro r96 h97 q98
  obtain ⟨rfl, z91, gf92, B93, e94, e95⟩ := q98
  obtain ⟨bl47, h_bl47⟩ : ∃ z : Int64, z = (bl42 + (0 : Int64)) := ⟨_, rfl⟩
  rw [← h_bl47] at B93
  have B99 : BX Z h97 a 16 10 bl47 gf92 m0 := B93
  have Z100 : n0 ≤ h97.size := Nat.le_trans Z90 z91
  show WP X n0 (Q_emp Z a g m0 h0) h97 0 0 50 #[.val ((.ref a))] []
  refine wp_run ok hK (B := [(50, .aload_n 0, false), (51, .lconst 0, false)]) (by decide +kernel) (ps := []) (pc' := 52) (L' := #[.val ((.ref a))]) (S' := [.long (0 : Int64), (.ref a)]) rfl trivial ?_
  refine wp_virtual ok (wd hw 13 rfl) (wd hw 14 rfl) (wd hw 16 rfl) (wd hw 15 rfl) (wd hw 3 rfl) (wd hw 17 rfl) (by decide) (argsL := [.long (0 : Int64)]) (rest := []) B99.1 (c_ad1 _ Z a0 hw a (0 : Int64) 16 10 bl47 gf92 m0 h97 n0 Z100 B99 hm g_a (by decide) (by decide)) (ps := [.long]) (by decide +kernel) (by rfl) (by rfl) (by rfl) (by decide +kernel) (by decide) (Nat.le_of_ble_eq_true rfl) (by decide) (by decide) ?_
  intro r106 h107 q108
  obtain ⟨rfl, z101, gf102, B103, e104, e105⟩ := q108
  obtain ⟨bl52, h_bl52⟩ : ∃ z : Int64, z = (bl47 + (0 : Int64)) := ⟨_, rfl⟩
  rw [← h_bl52] at B103
  have B109 : BX Z h107 a 16 11 bl52 gf102 m0 := B103
  have Z110 : n0 ≤ h107.size := Nat.le_trans Z100 z101
  show WP X n0 (Q_emp Z a g m0 h0) h107 0 0 55 #[.val ((.ref a))] []
  refine wp_run ok hK (B := [(55, .aload_n 0, false), (56, .lconst 0, false)]) (by decide +kernel) (ps := []) (pc' := 57) (L' := #[.val ((.ref a))]) (S' := [.long (0 : Int64), (.ref a)]) rfl trivial ?_
  refine wp_virtual ok (wd hw 13 rfl) (wd hw 14 rfl) (wd hw 16 rfl) (wd hw 15 rfl) (wd hw 3 rfl) (wd hw 17 rfl) (by decide) (argsL := [.long (0 : Int64)]) (rest := []) B109.1 (c_ad1 _ Z a0 hw a (0 : Int64) 16 11 bl52 gf102 m0 h107 n0 Z110 B109 hm g_a (by decide) (by decide)) (ps := [.long]) (by decide +kernel) (by rfl) (by rfl) (by rfl) (by decide +kernel) (by decide) (Nat.le_of_ble_eq_true rfl) (by decide) (by decide) ?_
  intro r116 h117 q118
  obtain ⟨rfl, z111, gf112, B113, e114, e115⟩ := q118
  obtain ⟨bl57, h_bl57⟩ : ∃ z : Int64, z = (bl52 + (0 : Int64)) := ⟨_, rfl⟩
  rw [← h_bl57] at B113
  have B119 : BX Z h117 a 16 12 bl57 gf112 m0 := B113
  have Z120 : n0 ≤ h117.size := Nat.le_trans Z110 z111
  show WP X n0 (Q_emp Z a g m0 h0) h117 0 0 60 #[.val ((.ref a))] []
  refine wp_run ok hK (B := [(60, .aload_n 0, false), (61, .lconst 0, false)]) (by decide +kernel) (ps := []) (pc' := 62) (L' := #[.val ((.ref a))]) (S' := [.long (0 : Int64), (.ref a)]) rfl trivial ?_
  refine wp_virtual ok (wd hw 13 rfl) (wd hw 14 rfl) (wd hw 16 rfl) (wd hw 15 rfl) (wd hw 3 rfl) (wd hw 17 rfl) (by decide) (argsL := [.long (0 : Int64)]) (rest := []) B119.1 (c_ad1 _ Z a0 hw a (0 : Int64) 16 12 bl57 gf112 m0 h117 n0 Z120 B119 hm g_a (by decide) (by decide)) (ps := [.long]) (by decide +kernel) (by rfl) (by rfl) (by rfl) (by decide +kernel) (by decide) (Nat.le_of_ble_eq_true rfl) (by decide) (by decide) ?_
  intro r126 h127 q128
  obtain ⟨rfl, z121, gf122, B123, e124, e125⟩ := q128
  obtain ⟨bl62, h_bl62⟩ : ∃ z : Int64, z = (bl57 + (0 : Int64)) := ⟨_, rfl⟩
  rw [← h_bl62] at B123
  have B129 : BX Z h127 a 16 13 bl62 gf122 m0 := B123
  have Z130 : n0 ≤ h127.size := Nat.le_trans Z120 z121
  show WP X n0 (Q_emp Z a g m0 h0) h127 0 0 65 #[.val ((.ref a))] []
  refine wp_run ok hK (B := [(65, .aload_n 0, false), (66, .lconst 0, false)]) (by decide +kernel) (ps := []) (pc' := 67) (L' := #[.val ((.ref a))]) (S' := [.long (0 : Int64), (.ref a)]) rfl trivial ?_
  refine wp_virtual ok (wd hw 13 rfl) (wd hw 14 rfl) (wd hw 16 rfl) (wd hw 15 rfl) (wd hw 3 rfl) (wd hw 17 rfl) (by decide) (argsL := [.long (0 : Int64)]) (rest := []) B129.1 (c_ad1 _ Z a0 hw a (0 : Int64) 16 13 bl62 gf122 m0 h127 n0 Z130 B129 hm g_a (by decide) (by decide)) (ps := [.long]) (by decide +kernel) (by rfl) (by rfl) (by rfl) (by decide +kernel) (by decide) (Nat.le_of_ble_eq_true rfl) (by decide) (by decide) ?_
  intro r136 h137 q138
  obtain ⟨rfl, z131, gf132, B133, e134, e135⟩ := q138
  obtain ⟨bl67, h_bl67⟩ : ∃ z : Int64, z = (bl62 + (0 : Int64)) := ⟨_, rfl⟩
  rw [← h_bl67] at B133
  have B139 : BX Z h137 a 16 14 bl67 gf132 m0 := B133
  have Z140 : n0 ≤ h137.size := Nat.le_trans Z130 z131
  show WP X n0 (Q_emp Z a g m0 h0) h137 0 0 70 #[.val ((.ref a))] []
  refine wp_retV ok (by decide +kernel) (by decide) (by decide) ?_
  have z_bl2 : bl2 = 0 := (own_emp_1 m0 bl2 h_bl2 bl7 h_bl7 bl12 h_bl12 bl17 h_bl17 bl22 h_bl22 bl27 h_bl27 bl32 h_bl32 bl37 h_bl37 bl42 h_bl42 bl47 h_bl47 bl52 h_bl52 bl57 h_bl57 bl62 h_bl62 bl67 h_bl67)
  have z_bl7 : bl7 = 0 := (own_emp_2 m0 bl2 h_bl2 bl7 h_bl7 bl12 h_bl12 bl17 h_bl17 bl22 h_bl22 bl27 h_bl27 bl32 h_bl32 bl37 h_bl37 bl42 h_bl42 bl47 h_bl47 bl52 h_bl52 bl57 h_bl57 bl62 h_bl62 bl67 h_bl67)
  have z_bl12 : bl12 = 0 := (own_emp_3 m0 bl2 h_bl2 bl7 h_bl7 bl12 h_bl12 bl17 h_bl17 bl22 h_bl22 bl27 h_bl27 bl32 h_bl32 bl37 h_bl37 bl42 h_bl42 bl47 h_bl47 bl52 h_bl52 bl57 h_bl57 bl62 h_bl62 bl67 h_bl67)
  have z_bl17 : bl17 = 0 := (own_emp_4 m0 bl2 h_bl2 bl7 h_bl7 bl12 h_bl12 bl17 h_bl17 bl22 h_bl22 bl27 h_bl27 bl32 h_bl32 bl37 h_bl37 bl42 h_bl42 bl47 h_bl47 bl52 h_bl52 bl57 h_bl57 bl62 h_bl62 bl67 h_bl67)
  have z_bl22 : bl22 = 0 := (own_emp_5 m0 bl2 h_bl2 bl7 h_bl7 bl12 h_bl12 bl17 h_bl17 bl22 h_bl22 bl27 h_bl27 bl32 h_bl32 bl37 h_bl37 bl42 h_bl42 bl47 h_bl47 bl52 h_bl52 bl57 h_bl57 bl62 h_bl62 bl67 h_bl67)
  have z_bl27 : bl27 = 0 := (own_emp_6 m0 bl2 h_bl2 bl7 h_bl7 bl12 h_bl12 bl17 h_bl17 bl22 h_bl22 bl27 h_bl27 bl32 h_bl32 bl37 h_bl37 bl42 h_bl42 bl47 h_bl47 bl52 h_bl52 bl57 h_bl57 bl62 h_bl62 bl67 h_bl67)
  have z_bl32 : bl32 = 0 := (own_emp_7 m0 bl2 h_bl2 bl7 h_bl7 bl12 h_bl12 bl17 h_bl17 bl22 h_bl22 bl27 h_bl27 bl32 h_bl32 bl37 h_bl37 bl42 h_bl42 bl47 h_bl47 bl52 h_bl52 bl57 h_bl57 bl62 h_bl62 bl67 h_bl67)
  have z_bl37 : bl37 = 0 := (own_emp_8 m0 bl2 h_bl2 bl7 h_bl7 bl12 h_bl12 bl17 h_bl17 bl22 h_bl22 bl27 h_bl27 bl32 h_bl32 bl37 h_bl37 bl42 h_bl42 bl47 h_bl47 bl52 h_bl52 bl57 h_bl57 bl62 h_bl62 bl67 h_bl67)
  have z_bl42 : bl42 = 0 := (own_emp_9 m0 bl2 h_bl2 bl7 h_bl7 bl12 h_bl12 bl17 h_bl17 bl22 h_bl22 bl27 h_bl27 bl32 h_bl32 bl37 h_bl37 bl42 h_bl42 bl47 h_bl47 bl52 h_bl52 bl57 h_bl57 bl62 h_bl62 bl67 h_bl67)
  have z_bl47 : bl47 = 0 := (own_emp_10 m0 bl2 h_bl2 bl7 h_bl7 bl12 h_bl12 bl17 h_bl17 bl22 h_bl22 bl27 h_bl27 bl32 h_bl32 bl37 h_bl37 bl42 h_bl42 bl47 h_bl47 bl52 h_bl52 bl57 h_bl57 bl62 h_bl62 bl67 h_bl67)
  have z_bl52 : bl52 = 0 := (own_emp_11 m0 bl2 h_bl2 bl7 h_bl7 bl12 h_bl12 bl17 h_bl17 bl22 h_bl22 bl27 h_bl27 bl32 h_bl32 bl37 h_bl37 bl42 h_bl42 bl47 h_bl47 bl52 h_bl52 bl57 h_bl57 bl62 h_bl62 bl67 h_bl67)
  have z_bl57 : bl57 = 0 := (own_emp_12 m0 bl2 h_bl2 bl7 h_bl7 bl12 h_bl12 bl17 h_bl17 bl22 h_bl22 bl27 h_bl27 bl32 h_bl32 bl37 h_bl37 bl42 h_bl42 bl47 h_bl47 bl52 h_bl52 bl57 h_bl57 bl62 h_bl62 bl67 h_bl67)
  have z_bl62 : bl62 = 0 := (own_emp_13 m0 bl2 h_bl2 bl7 h_bl7 bl12 h_bl12 bl17 h_bl17 bl22 h_bl22 bl27 h_bl27 bl32 h_bl32 bl37 h_bl37 bl42 h_bl42 bl47 h_bl47 bl52 h_bl52 bl57 h_bl57 bl62 h_bl62 bl67 h_bl67)
  have z_bl67 : bl67 = 0 := (own_emp_14 m0 bl2 h_bl2 bl7 h_bl7 bl12 h_bl12 bl17 h_bl17 bl22 h_bl22 bl27 h_bl27 bl32 h_bl32 bl37 h_bl37 bl42 h_bl42 bl47 h_bl47 bl52 h_bl52 bl57 h_bl57 bl62 h_bl62 bl67 h_bl67)
  have all : ∀ i, i < 14 → gf132 i = 1 := by
    intro i hi
    by_cases q13 : i = 13
    · rw [q13, e134, z_bl62]; decide
    rw [e135 i (by omega)]
    by_cases q12 : i = 12
    · rw [q12, e124, z_bl57]; decide
    rw [e125 i (by omega)]
    by_cases q11 : i = 11
    · rw [q11, e114, z_bl52]; decide
    rw [e115 i (by omega)]
    by_cases q10 : i = 10
    · rw [q10, e104, z_bl47]; decide
    rw [e105 i (by omega)]
    by_cases q9 : i = 9
    · rw [q9, e94, z_bl42]; decide
    rw [e95 i (by omega)]
    by_cases q8 : i = 8
    · rw [q8, e84, z_bl37]; decide
    rw [e85 i (by omega)]
    by_cases q7 : i = 7
    · rw [q7, e74, z_bl32]; decide
    rw [e75 i (by omega)]
    by_cases q6 : i = 6
    · rw [q6, e64, z_bl27]; decide
    rw [e65 i (by omega)]
    by_cases q5 : i = 5
    · rw [q5, e54, z_bl22]; decide
    rw [e55 i (by omega)]
    by_cases q4 : i = 4
    · rw [q4, e44, z_bl17]; decide
    rw [e45 i (by omega)]
    by_cases q3 : i = 3
    · rw [q3, e34, z_bl12]; decide
    rw [e35 i (by omega)]
    by_cases q2 : i = 2
    · rw [q2, e24, z_bl7]; decide
    rw [e25 i (by omega)]
    by_cases q1 : i = 1
    · rw [q1, e14, z_bl2]; decide
    rw [e15 i (by omega)]
    by_cases q0 : i = 0
    · rw [q0, e4]; decide
    exact absurd hi (by omega)
  refine ⟨rfl, (Nat.le_trans (Nat.le_trans (Nat.le_trans (Nat.le_trans (Nat.le_trans (Nat.le_trans (Nat.le_trans (Nat.le_trans (Nat.le_trans (Nat.le_trans (Nat.le_trans (Nat.le_trans (Nat.le_trans (Nat.le_trans (Nat.le_refl _) z1) z11) z21) z31) z41) z51) z61) z71) z81) z91) z101) z111) z121) z131), gf132, ?_, all⟩
  rw [← z_bl67]; exact B139
def k_law : List (Nat × Value) := [(13, .long (1099511627775 : Int64)), (32, .long (9223372036854775807 : Int64))]
def QL : Post := fun v _ => v = some (.int 1)
theorem own_law_1 (md : Int32) (x1 : Int64) (y1 : Int64) (z1 : Int64) (r1 : Int64) (s11_0 : Int32) (h_s11_0 : s11_0 = (if (md &&& (1 : Int32)) = (0 : Int32) then (0 : Int32) else (1 : Int32))) (a : Int64) (h_a : a = (x1 &&& (1099511627775 : Int64))) (b : Int64) (h_b : b = (y1 &&& (1099511627775 : Int64))) (cz : Int64) (h_cz : cz = (z1 &&& (1099511627775 : Int64))) (hc49 : s11_0 = (0 : Int32)) (bl65 : Int64) (h_bl65 : bl65 = ((0 : Int64) + a)) (bl72 : Int64) (h_bl72 : bl72 = (bl65 + b)) (bl79 : Int64) (h_bl79 : bl79 = (bl72 + cz)) (kk : Int64) (h_kk : kk = ((a + b) + cz)) (z94 : Int32) (h_z94 : z94 = (Int32.ofNat 3)) : z94 = (3 : Int32) := by
  rw [h_z94]; rfl
theorem own_law_2 (md : Int32) (x1 : Int64) (y1 : Int64) (z1 : Int64) (r1 : Int64) (s11_0 : Int32) (h_s11_0 : s11_0 = (if (md &&& (1 : Int32)) = (0 : Int32) then (0 : Int32) else (1 : Int32))) (a : Int64) (h_a : a = (x1 &&& (1099511627775 : Int64))) (b : Int64) (h_b : b = (y1 &&& (1099511627775 : Int64))) (cz : Int64) (h_cz : cz = (z1 &&& (1099511627775 : Int64))) (hc49 : s11_0 = (0 : Int32)) (bl65 : Int64) (h_bl65 : bl65 = ((0 : Int64) + a)) (bl72 : Int64) (h_bl72 : bl72 = (bl65 + b)) (bl79 : Int64) (h_bl79 : bl79 = (bl72 + cz)) (kk : Int64) (h_kk : kk = ((a + b) + cz)) (z94 : Int32) (h_z94 : z94 = (Int32.ofNat 3)) : bl79 = kk := by
  subst_vars; rw [Int64.zero_add]
theorem own_law_3 (md : Int32) (x1 : Int64) (y1 : Int64) (z1 : Int64) (r1 : Int64) (s11_0 : Int32) (h_s11_0 : s11_0 = (if (md &&& (1 : Int32)) = (0 : Int32) then (0 : Int32) else (1 : Int32))) (a : Int64) (h_a : a = (x1 &&& (1099511627775 : Int64))) (b : Int64) (h_b : b = (y1 &&& (1099511627775 : Int64))) (cz : Int64) (h_cz : cz = (z1 &&& (1099511627775 : Int64))) (hc49 : s11_0 = (0 : Int32)) (bl65 : Int64) (h_bl65 : bl65 = ((0 : Int64) + a)) (bl72 : Int64) (h_bl72 : bl72 = (bl65 + b)) (bl79 : Int64) (h_bl79 : bl79 = (bl72 + cz)) (kk : Int64) (h_kk : kk = ((a + b) + cz)) (z94 : Int32) (h_z94 : z94 = (Int32.ofNat 3)) (hc123 : kk = (0 : Int64)) : nar .boolean (1 : Int32) = 1 := by
  rfl
theorem own_law_4 (md : Int32) (x1 : Int64) (y1 : Int64) (z1 : Int64) (r1 : Int64) (s11_0 : Int32) (h_s11_0 : s11_0 = (if (md &&& (1 : Int32)) = (0 : Int32) then (0 : Int32) else (1 : Int32))) (a : Int64) (h_a : a = (x1 &&& (1099511627775 : Int64))) (b : Int64) (h_b : b = (y1 &&& (1099511627775 : Int64))) (cz : Int64) (h_cz : cz = (z1 &&& (1099511627775 : Int64))) (hc49 : s11_0 = (0 : Int32)) (bl65 : Int64) (h_bl65 : bl65 = ((0 : Int64) + a)) (bl72 : Int64) (h_bl72 : bl72 = (bl65 + b)) (bl79 : Int64) (h_bl79 : bl79 = (bl72 + cz)) (kk : Int64) (h_kk : kk = ((a + b) + cz)) (z94 : Int32) (h_z94 : z94 = (Int32.ofNat 3)) (hc123 : ¬ (kk = (0 : Int64))) : kk ≠ 0 := by
  exact hc123
theorem own_law_5 (md : Int32) (x1 : Int64) (y1 : Int64) (z1 : Int64) (r1 : Int64) (s11_0 : Int32) (h_s11_0 : s11_0 = (if (md &&& (1 : Int32)) = (0 : Int32) then (0 : Int32) else (1 : Int32))) (a : Int64) (h_a : a = (x1 &&& (1099511627775 : Int64))) (b : Int64) (h_b : b = (y1 &&& (1099511627775 : Int64))) (cz : Int64) (h_cz : cz = (z1 &&& (1099511627775 : Int64))) (hc49 : s11_0 = (0 : Int32)) (bl65 : Int64) (h_bl65 : bl65 = ((0 : Int64) + a)) (bl72 : Int64) (h_bl72 : bl72 = (bl65 + b)) (bl79 : Int64) (h_bl79 : bl79 = (bl72 + cz)) (kk : Int64) (h_kk : kk = ((a + b) + cz)) (z94 : Int32) (h_z94 : z94 = (Int32.ofNat 3)) (hc123 : ¬ (kk = (0 : Int64))) (q : Int64) (h_q : q = ((1 : Int64) + ((r1 &&& (9223372036854775807 : Int64)) % kk))) (ss2 : Int64) (h_ss2 : ss2 = ((1 : Int64) + a)) (ss3 : Int64) (h_ss3 : ss3 = (((1 : Int64) + a) + b)) (v207_26 : Int32) (h_v207_26 : v207_26 = (if q < ss3 then (if q < ss2 then (1 : Int32) else (2 : Int32)) else (3 : Int32))) (v207_27 : Int64) (h_v207_27 : v207_27 = (if q < ss3 then (if q < ss2 then (q - (1 : Int64)) else (q - ss2)) else (q - ss3))) : 1 ≤ ss2.toInt := by
  have m1 := c_maskL x1 1099511627775 40 (by decide) (by decide)
  have m2 := c_maskL y1 1099511627775 40 (by decide) (by decide)
  have m3 := c_maskL z1 1099511627775 40 (by decide) (by decide)
  rw [← h_a] at m1
  rw [← h_b] at m2
  rw [← h_cz] at m3
  have o1 : (1 : Int64).toInt = 1 := rfl
  have t2 : ss2.toInt = 1 + a.toInt := by rw [h_ss2, x_ladd (by rw [o1]; omega) (by rw [o1]; omega), o1]
  have t3 : ss3.toInt = 1 + a.toInt + b.toInt := by
    have u1 : ((1 : Int64) + a).toInt = 1 + a.toInt := by rw [x_ladd (by rw [o1]; omega) (by rw [o1]; omega), o1]
    rw [h_ss3, x_ladd (by rw [u1]; omega) (by rw [u1]; omega), u1]
  omega
theorem own_law_6 (md : Int32) (x1 : Int64) (y1 : Int64) (z1 : Int64) (r1 : Int64) (s11_0 : Int32) (h_s11_0 : s11_0 = (if (md &&& (1 : Int32)) = (0 : Int32) then (0 : Int32) else (1 : Int32))) (a : Int64) (h_a : a = (x1 &&& (1099511627775 : Int64))) (b : Int64) (h_b : b = (y1 &&& (1099511627775 : Int64))) (cz : Int64) (h_cz : cz = (z1 &&& (1099511627775 : Int64))) (hc49 : s11_0 = (0 : Int32)) (bl65 : Int64) (h_bl65 : bl65 = ((0 : Int64) + a)) (bl72 : Int64) (h_bl72 : bl72 = (bl65 + b)) (bl79 : Int64) (h_bl79 : bl79 = (bl72 + cz)) (kk : Int64) (h_kk : kk = ((a + b) + cz)) (z94 : Int32) (h_z94 : z94 = (Int32.ofNat 3)) (hc123 : ¬ (kk = (0 : Int64))) (q : Int64) (h_q : q = ((1 : Int64) + ((r1 &&& (9223372036854775807 : Int64)) % kk))) (ss2 : Int64) (h_ss2 : ss2 = ((1 : Int64) + a)) (ss3 : Int64) (h_ss3 : ss3 = (((1 : Int64) + a) + b)) (v207_26 : Int32) (h_v207_26 : v207_26 = (if q < ss3 then (if q < ss2 then (1 : Int32) else (2 : Int32)) else (3 : Int32))) (v207_27 : Int64) (h_v207_27 : v207_27 = (if q < ss3 then (if q < ss2 then (q - (1 : Int64)) else (q - ss2)) else (q - ss3))) : ss2.toInt ≤ ss3.toInt := by
  have m1 := c_maskL x1 1099511627775 40 (by decide) (by decide)
  have m2 := c_maskL y1 1099511627775 40 (by decide) (by decide)
  have m3 := c_maskL z1 1099511627775 40 (by decide) (by decide)
  rw [← h_a] at m1
  rw [← h_b] at m2
  rw [← h_cz] at m3
  have o1 : (1 : Int64).toInt = 1 := rfl
  have t2 : ss2.toInt = 1 + a.toInt := by rw [h_ss2, x_ladd (by rw [o1]; omega) (by rw [o1]; omega), o1]
  have t3 : ss3.toInt = 1 + a.toInt + b.toInt := by
    have u1 : ((1 : Int64) + a).toInt = 1 + a.toInt := by rw [x_ladd (by rw [o1]; omega) (by rw [o1]; omega), o1]
    rw [h_ss3, x_ladd (by rw [u1]; omega) (by rw [u1]; omega), u1]
  omega
theorem own_law_7 (md : Int32) (x1 : Int64) (y1 : Int64) (z1 : Int64) (r1 : Int64) (s11_0 : Int32) (h_s11_0 : s11_0 = (if (md &&& (1 : Int32)) = (0 : Int32) then (0 : Int32) else (1 : Int32))) (a : Int64) (h_a : a = (x1 &&& (1099511627775 : Int64))) (b : Int64) (h_b : b = (y1 &&& (1099511627775 : Int64))) (cz : Int64) (h_cz : cz = (z1 &&& (1099511627775 : Int64))) (hc49 : s11_0 = (0 : Int32)) (bl65 : Int64) (h_bl65 : bl65 = ((0 : Int64) + a)) (bl72 : Int64) (h_bl72 : bl72 = (bl65 + b)) (bl79 : Int64) (h_bl79 : bl79 = (bl72 + cz)) (kk : Int64) (h_kk : kk = ((a + b) + cz)) (z94 : Int32) (h_z94 : z94 = (Int32.ofNat 3)) (hc123 : ¬ (kk = (0 : Int64))) (q : Int64) (h_q : q = ((1 : Int64) + ((r1 &&& (9223372036854775807 : Int64)) % kk))) (ss2 : Int64) (h_ss2 : ss2 = ((1 : Int64) + a)) (ss3 : Int64) (h_ss3 : ss3 = (((1 : Int64) + a) + b)) (v207_26 : Int32) (h_v207_26 : v207_26 = (if q < ss3 then (if q < ss2 then (1 : Int32) else (2 : Int32)) else (3 : Int32))) (v207_27 : Int64) (h_v207_27 : v207_27 = (if q < ss3 then (if q < ss2 then (q - (1 : Int64)) else (q - ss2)) else (q - ss3))) : 1 ≤ q.toInt := by
  have m1 := c_maskL x1 1099511627775 40 (by decide) (by decide)
  have m2 := c_maskL y1 1099511627775 40 (by decide) (by decide)
  have m3 := c_maskL z1 1099511627775 40 (by decide) (by decide)
  rw [← h_a] at m1
  rw [← h_b] at m2
  rw [← h_cz] at m3
  have o1 : (1 : Int64).toInt = 1 := rfl
  have k1 : kk.toInt = a.toInt + b.toInt + cz.toInt := by
    have u1 : (a + b).toInt = a.toInt + b.toInt := x_ladd (by omega) (by omega)
    rw [h_kk, x_ladd (by rw [u1]; omega) (by rw [u1]; omega), u1]
  have k0 : ¬ kk.toInt = 0 := fun w => hc123 (by rw [← Int64.toInt_inj, w]; rfl)
  have mr := c_maskL r1 9223372036854775807 63 (by decide) (by decide)
  have rr := (c_lmod (r1 &&& 9223372036854775807) kk kk.toInt rfl).1 (by rw [mr]; omega)
  have e1 := Int.emod_nonneg (r1 &&& 9223372036854775807).toInt (show kk.toInt ≠ 0 by omega)
  have e2 := Int.emod_lt_of_pos (r1 &&& 9223372036854775807).toInt (show 0 < kk.toInt by omega)
  rw [h_q, x_ladd (by rw [rr, o1]; omega) (by rw [rr, o1]; omega), rr, o1]; omega
theorem own_law_8 (md : Int32) (x1 : Int64) (y1 : Int64) (z1 : Int64) (r1 : Int64) (s11_0 : Int32) (h_s11_0 : s11_0 = (if (md &&& (1 : Int32)) = (0 : Int32) then (0 : Int32) else (1 : Int32))) (a : Int64) (h_a : a = (x1 &&& (1099511627775 : Int64))) (b : Int64) (h_b : b = (y1 &&& (1099511627775 : Int64))) (cz : Int64) (h_cz : cz = (z1 &&& (1099511627775 : Int64))) (hc49 : s11_0 = (0 : Int32)) (bl65 : Int64) (h_bl65 : bl65 = ((0 : Int64) + a)) (bl72 : Int64) (h_bl72 : bl72 = (bl65 + b)) (bl79 : Int64) (h_bl79 : bl79 = (bl72 + cz)) (kk : Int64) (h_kk : kk = ((a + b) + cz)) (z94 : Int32) (h_z94 : z94 = (Int32.ofNat 3)) (hc123 : ¬ (kk = (0 : Int64))) (q : Int64) (h_q : q = ((1 : Int64) + ((r1 &&& (9223372036854775807 : Int64)) % kk))) (ss2 : Int64) (h_ss2 : ss2 = ((1 : Int64) + a)) (ss3 : Int64) (h_ss3 : ss3 = (((1 : Int64) + a) + b)) (v207_26 : Int32) (h_v207_26 : v207_26 = (if q < ss3 then (if q < ss2 then (1 : Int32) else (2 : Int32)) else (3 : Int32))) (v207_27 : Int64) (h_v207_27 : v207_27 = (if q < ss3 then (if q < ss2 then (q - (1 : Int64)) else (q - ss2)) else (q - ss3))) : bl65 + (1 : Int64) = ss2 := by
  subst_vars; rw [Int64.zero_add, Int64.add_comm]
theorem own_law_9 (md : Int32) (x1 : Int64) (y1 : Int64) (z1 : Int64) (r1 : Int64) (s11_0 : Int32) (h_s11_0 : s11_0 = (if (md &&& (1 : Int32)) = (0 : Int32) then (0 : Int32) else (1 : Int32))) (a : Int64) (h_a : a = (x1 &&& (1099511627775 : Int64))) (b : Int64) (h_b : b = (y1 &&& (1099511627775 : Int64))) (cz : Int64) (h_cz : cz = (z1 &&& (1099511627775 : Int64))) (hc49 : s11_0 = (0 : Int32)) (bl65 : Int64) (h_bl65 : bl65 = ((0 : Int64) + a)) (bl72 : Int64) (h_bl72 : bl72 = (bl65 + b)) (bl79 : Int64) (h_bl79 : bl79 = (bl72 + cz)) (kk : Int64) (h_kk : kk = ((a + b) + cz)) (z94 : Int32) (h_z94 : z94 = (Int32.ofNat 3)) (hc123 : ¬ (kk = (0 : Int64))) (q : Int64) (h_q : q = ((1 : Int64) + ((r1 &&& (9223372036854775807 : Int64)) % kk))) (ss2 : Int64) (h_ss2 : ss2 = ((1 : Int64) + a)) (ss3 : Int64) (h_ss3 : ss3 = (((1 : Int64) + a) + b)) (v207_26 : Int32) (h_v207_26 : v207_26 = (if q < ss3 then (if q < ss2 then (1 : Int32) else (2 : Int32)) else (3 : Int32))) (v207_27 : Int64) (h_v207_27 : v207_27 = (if q < ss3 then (if q < ss2 then (q - (1 : Int64)) else (q - ss2)) else (q - ss3))) : bl72 + (1 : Int64) = ss3 := by
  subst_vars; rw [Int64.zero_add, Int64.add_comm, Int64.add_assoc]
theorem own_law_10 (md : Int32) (x1 : Int64) (y1 : Int64) (z1 : Int64) (r1 : Int64) (s11_0 : Int32) (h_s11_0 : s11_0 = (if (md &&& (1 : Int32)) = (0 : Int32) then (0 : Int32) else (1 : Int32))) (a : Int64) (h_a : a = (x1 &&& (1099511627775 : Int64))) (b : Int64) (h_b : b = (y1 &&& (1099511627775 : Int64))) (cz : Int64) (h_cz : cz = (z1 &&& (1099511627775 : Int64))) (hc49 : s11_0 = (0 : Int32)) (bl65 : Int64) (h_bl65 : bl65 = ((0 : Int64) + a)) (bl72 : Int64) (h_bl72 : bl72 = (bl65 + b)) (bl79 : Int64) (h_bl79 : bl79 = (bl72 + cz)) (kk : Int64) (h_kk : kk = ((a + b) + cz)) (z94 : Int32) (h_z94 : z94 = (Int32.ofNat 3)) (hc123 : ¬ (kk = (0 : Int64))) (q : Int64) (h_q : q = ((1 : Int64) + ((r1 &&& (9223372036854775807 : Int64)) % kk))) (ss2 : Int64) (h_ss2 : ss2 = ((1 : Int64) + a)) (ss3 : Int64) (h_ss3 : ss3 = (((1 : Int64) + a) + b)) (v207_26 : Int32) (h_v207_26 : v207_26 = (if q < ss3 then (if q < ss2 then (1 : Int32) else (2 : Int32)) else (3 : Int32))) (v207_27 : Int64) (h_v207_27 : v207_27 = (if q < ss3 then (if q < ss2 then (q - (1 : Int64)) else (q - ss2)) else (q - ss3))) (rho62 : Nat) (gr63 : Int64) (HR78 : (q < ss2 → rho62 = 0 ∧ gr63 = 1) ∧ (¬ q < ss2 → q < ss3 → rho62 = 0 + 1 ∧ gr63 = ss2) ∧ (¬ q < ss3 → rho62 = 0 + 2 ∧ gr63 = ss3)) (z218 : Int32) (h_z218 : z218 = (Int32.ofNat (rho62 + 1))) : z218 = ((0 : Int32) + v207_26) := by
  obtain ⟨a1, a2, a3⟩ := HR78
  rw [h_z218, h_v207_26]
  by_cases c3 : q < ss3
  · by_cases c2 : q < ss2
    · rw [(a1 c2).1, if_pos c3, if_pos c2]; decide
    · rw [(a2 c2 c3).1, if_pos c3, if_neg c2]; decide
  · rw [(a3 c3).1, if_neg c3]; decide
theorem own_law_11 (md : Int32) (x1 : Int64) (y1 : Int64) (z1 : Int64) (r1 : Int64) (s11_0 : Int32) (h_s11_0 : s11_0 = (if (md &&& (1 : Int32)) = (0 : Int32) then (0 : Int32) else (1 : Int32))) (a : Int64) (h_a : a = (x1 &&& (1099511627775 : Int64))) (b : Int64) (h_b : b = (y1 &&& (1099511627775 : Int64))) (cz : Int64) (h_cz : cz = (z1 &&& (1099511627775 : Int64))) (hc49 : s11_0 = (0 : Int32)) (bl65 : Int64) (h_bl65 : bl65 = ((0 : Int64) + a)) (bl72 : Int64) (h_bl72 : bl72 = (bl65 + b)) (bl79 : Int64) (h_bl79 : bl79 = (bl72 + cz)) (kk : Int64) (h_kk : kk = ((a + b) + cz)) (z94 : Int32) (h_z94 : z94 = (Int32.ofNat 3)) (hc123 : ¬ (kk = (0 : Int64))) (q : Int64) (h_q : q = ((1 : Int64) + ((r1 &&& (9223372036854775807 : Int64)) % kk))) (ss2 : Int64) (h_ss2 : ss2 = ((1 : Int64) + a)) (ss3 : Int64) (h_ss3 : ss3 = (((1 : Int64) + a) + b)) (v207_26 : Int32) (h_v207_26 : v207_26 = (if q < ss3 then (if q < ss2 then (1 : Int32) else (2 : Int32)) else (3 : Int32))) (v207_27 : Int64) (h_v207_27 : v207_27 = (if q < ss3 then (if q < ss2 then (q - (1 : Int64)) else (q - ss2)) else (q - ss3))) (rho62 : Nat) (gr63 : Int64) (HR78 : (q < ss2 → rho62 = 0 ∧ gr63 = 1) ∧ (¬ q < ss2 → q < ss3 → rho62 = 0 + 1 ∧ gr63 = ss2) ∧ (¬ q < ss3 → rho62 = 0 + 2 ∧ gr63 = ss3)) (z218 : Int32) (h_z218 : z218 = (Int32.ofNat (rho62 + 1))) (z231 : Int64) (h_z231 : z231 = (q - gr63)) : z231 = v207_27 := by
  obtain ⟨a1, a2, a3⟩ := HR78
  rw [h_z231, h_v207_27]
  by_cases c3 : q < ss3
  · by_cases c2 : q < ss2
    · rw [(a1 c2).2, if_pos c3, if_pos c2]
    · rw [(a2 c2 c3).2, if_pos c3, if_neg c2]
  · rw [(a3 c3).2, if_neg c3]
theorem own_law_12 (md : Int32) (x1 : Int64) (y1 : Int64) (z1 : Int64) (r1 : Int64) (s11_0 : Int32) (h_s11_0 : s11_0 = (if (md &&& (1 : Int32)) = (0 : Int32) then (0 : Int32) else (1 : Int32))) (a : Int64) (h_a : a = (x1 &&& (1099511627775 : Int64))) (b : Int64) (h_b : b = (y1 &&& (1099511627775 : Int64))) (cz : Int64) (h_cz : cz = (z1 &&& (1099511627775 : Int64))) (hc49 : s11_0 = (0 : Int32)) (bl65 : Int64) (h_bl65 : bl65 = ((0 : Int64) + a)) (bl72 : Int64) (h_bl72 : bl72 = (bl65 + b)) (bl79 : Int64) (h_bl79 : bl79 = (bl72 + cz)) (kk : Int64) (h_kk : kk = ((a + b) + cz)) (z94 : Int32) (h_z94 : z94 = (Int32.ofNat 3)) (hc123 : ¬ (kk = (0 : Int64))) (q : Int64) (h_q : q = ((1 : Int64) + ((r1 &&& (9223372036854775807 : Int64)) % kk))) (ss2 : Int64) (h_ss2 : ss2 = ((1 : Int64) + a)) (ss3 : Int64) (h_ss3 : ss3 = (((1 : Int64) + a) + b)) (v207_26 : Int32) (h_v207_26 : v207_26 = (if q < ss3 then (if q < ss2 then (1 : Int32) else (2 : Int32)) else (3 : Int32))) (v207_27 : Int64) (h_v207_27 : v207_27 = (if q < ss3 then (if q < ss2 then (q - (1 : Int64)) else (q - ss2)) else (q - ss3))) (rho62 : Nat) (gr63 : Int64) (HR78 : (q < ss2 → rho62 = 0 ∧ gr63 = 1) ∧ (¬ q < ss2 → q < ss3 → rho62 = 0 + 1 ∧ gr63 = ss2) ∧ (¬ q < ss3 → rho62 = 0 + 2 ∧ gr63 = ss3)) (z218 : Int32) (h_z218 : z218 = (Int32.ofNat (rho62 + 1))) (z231 : Int64) (h_z231 : z231 = (q - gr63)) : nar .boolean (1 : Int32) = 1 := by
  rfl
theorem own_law_13 (md : Int32) (x1 : Int64) (y1 : Int64) (z1 : Int64) (r1 : Int64) (s11_0 : Int32) (h_s11_0 : s11_0 = (if (md &&& (1 : Int32)) = (0 : Int32) then (0 : Int32) else (1 : Int32))) (a : Int64) (h_a : a = (x1 &&& (1099511627775 : Int64))) (b : Int64) (h_b : b = (y1 &&& (1099511627775 : Int64))) (cz : Int64) (h_cz : cz = (z1 &&& (1099511627775 : Int64))) (hc49 : ¬ (s11_0 = (0 : Int32))) (bl65 : Int64) (h_bl65 : bl65 = ((0 : Int64) + a)) (bl72 : Int64) (h_bl72 : bl72 = (bl65 + b)) (bl79 : Int64) (h_bl79 : bl79 = (bl72 + cz)) (kk : Int64) (h_kk : kk = ((a + b) + cz)) (z94 : Int32) (h_z94 : z94 = (Int32.ofNat 17)) : z94 = (17 : Int32) := by
  rw [h_z94]; rfl
theorem own_law_14 (md : Int32) (x1 : Int64) (y1 : Int64) (z1 : Int64) (r1 : Int64) (s11_0 : Int32) (h_s11_0 : s11_0 = (if (md &&& (1 : Int32)) = (0 : Int32) then (0 : Int32) else (1 : Int32))) (a : Int64) (h_a : a = (x1 &&& (1099511627775 : Int64))) (b : Int64) (h_b : b = (y1 &&& (1099511627775 : Int64))) (cz : Int64) (h_cz : cz = (z1 &&& (1099511627775 : Int64))) (hc49 : ¬ (s11_0 = (0 : Int32))) (bl65 : Int64) (h_bl65 : bl65 = ((0 : Int64) + a)) (bl72 : Int64) (h_bl72 : bl72 = (bl65 + b)) (bl79 : Int64) (h_bl79 : bl79 = (bl72 + cz)) (kk : Int64) (h_kk : kk = ((a + b) + cz)) (z94 : Int32) (h_z94 : z94 = (Int32.ofNat 17)) : bl79 = kk := by
  subst_vars; rw [Int64.zero_add]
theorem own_law_15 (md : Int32) (x1 : Int64) (y1 : Int64) (z1 : Int64) (r1 : Int64) (s11_0 : Int32) (h_s11_0 : s11_0 = (if (md &&& (1 : Int32)) = (0 : Int32) then (0 : Int32) else (1 : Int32))) (a : Int64) (h_a : a = (x1 &&& (1099511627775 : Int64))) (b : Int64) (h_b : b = (y1 &&& (1099511627775 : Int64))) (cz : Int64) (h_cz : cz = (z1 &&& (1099511627775 : Int64))) (hc49 : ¬ (s11_0 = (0 : Int32))) (bl65 : Int64) (h_bl65 : bl65 = ((0 : Int64) + a)) (bl72 : Int64) (h_bl72 : bl72 = (bl65 + b)) (bl79 : Int64) (h_bl79 : bl79 = (bl72 + cz)) (kk : Int64) (h_kk : kk = ((a + b) + cz)) (z94 : Int32) (h_z94 : z94 = (Int32.ofNat 17)) (hc123 : kk = (0 : Int64)) : nar .boolean (1 : Int32) = 1 := by
  rfl
theorem own_law_16 (md : Int32) (x1 : Int64) (y1 : Int64) (z1 : Int64) (r1 : Int64) (s11_0 : Int32) (h_s11_0 : s11_0 = (if (md &&& (1 : Int32)) = (0 : Int32) then (0 : Int32) else (1 : Int32))) (a : Int64) (h_a : a = (x1 &&& (1099511627775 : Int64))) (b : Int64) (h_b : b = (y1 &&& (1099511627775 : Int64))) (cz : Int64) (h_cz : cz = (z1 &&& (1099511627775 : Int64))) (hc49 : ¬ (s11_0 = (0 : Int32))) (bl65 : Int64) (h_bl65 : bl65 = ((0 : Int64) + a)) (bl72 : Int64) (h_bl72 : bl72 = (bl65 + b)) (bl79 : Int64) (h_bl79 : bl79 = (bl72 + cz)) (kk : Int64) (h_kk : kk = ((a + b) + cz)) (z94 : Int32) (h_z94 : z94 = (Int32.ofNat 17)) (hc123 : ¬ (kk = (0 : Int64))) : kk ≠ 0 := by
  exact hc123
theorem own_law_17 (md : Int32) (x1 : Int64) (y1 : Int64) (z1 : Int64) (r1 : Int64) (s11_0 : Int32) (h_s11_0 : s11_0 = (if (md &&& (1 : Int32)) = (0 : Int32) then (0 : Int32) else (1 : Int32))) (a : Int64) (h_a : a = (x1 &&& (1099511627775 : Int64))) (b : Int64) (h_b : b = (y1 &&& (1099511627775 : Int64))) (cz : Int64) (h_cz : cz = (z1 &&& (1099511627775 : Int64))) (hc49 : ¬ (s11_0 = (0 : Int32))) (bl65 : Int64) (h_bl65 : bl65 = ((0 : Int64) + a)) (bl72 : Int64) (h_bl72 : bl72 = (bl65 + b)) (bl79 : Int64) (h_bl79 : bl79 = (bl72 + cz)) (kk : Int64) (h_kk : kk = ((a + b) + cz)) (z94 : Int32) (h_z94 : z94 = (Int32.ofNat 17)) (hc123 : ¬ (kk = (0 : Int64))) (q : Int64) (h_q : q = ((1 : Int64) + ((r1 &&& (9223372036854775807 : Int64)) % kk))) (ss2 : Int64) (h_ss2 : ss2 = ((1 : Int64) + a)) (ss3 : Int64) (h_ss3 : ss3 = (((1 : Int64) + a) + b)) (v207_26 : Int32) (h_v207_26 : v207_26 = (if q < ss3 then (if q < ss2 then (1 : Int32) else (2 : Int32)) else (3 : Int32))) (v207_27 : Int64) (h_v207_27 : v207_27 = (if q < ss3 then (if q < ss2 then (q - (1 : Int64)) else (q - ss2)) else (q - ss3))) : 1 ≤ ss2.toInt := by
  have m1 := c_maskL x1 1099511627775 40 (by decide) (by decide)
  have m2 := c_maskL y1 1099511627775 40 (by decide) (by decide)
  have m3 := c_maskL z1 1099511627775 40 (by decide) (by decide)
  rw [← h_a] at m1
  rw [← h_b] at m2
  rw [← h_cz] at m3
  have o1 : (1 : Int64).toInt = 1 := rfl
  have t2 : ss2.toInt = 1 + a.toInt := by rw [h_ss2, x_ladd (by rw [o1]; omega) (by rw [o1]; omega), o1]
  have t3 : ss3.toInt = 1 + a.toInt + b.toInt := by
    have u1 : ((1 : Int64) + a).toInt = 1 + a.toInt := by rw [x_ladd (by rw [o1]; omega) (by rw [o1]; omega), o1]
    rw [h_ss3, x_ladd (by rw [u1]; omega) (by rw [u1]; omega), u1]
  omega
theorem own_law_18 (md : Int32) (x1 : Int64) (y1 : Int64) (z1 : Int64) (r1 : Int64) (s11_0 : Int32) (h_s11_0 : s11_0 = (if (md &&& (1 : Int32)) = (0 : Int32) then (0 : Int32) else (1 : Int32))) (a : Int64) (h_a : a = (x1 &&& (1099511627775 : Int64))) (b : Int64) (h_b : b = (y1 &&& (1099511627775 : Int64))) (cz : Int64) (h_cz : cz = (z1 &&& (1099511627775 : Int64))) (hc49 : ¬ (s11_0 = (0 : Int32))) (bl65 : Int64) (h_bl65 : bl65 = ((0 : Int64) + a)) (bl72 : Int64) (h_bl72 : bl72 = (bl65 + b)) (bl79 : Int64) (h_bl79 : bl79 = (bl72 + cz)) (kk : Int64) (h_kk : kk = ((a + b) + cz)) (z94 : Int32) (h_z94 : z94 = (Int32.ofNat 17)) (hc123 : ¬ (kk = (0 : Int64))) (q : Int64) (h_q : q = ((1 : Int64) + ((r1 &&& (9223372036854775807 : Int64)) % kk))) (ss2 : Int64) (h_ss2 : ss2 = ((1 : Int64) + a)) (ss3 : Int64) (h_ss3 : ss3 = (((1 : Int64) + a) + b)) (v207_26 : Int32) (h_v207_26 : v207_26 = (if q < ss3 then (if q < ss2 then (1 : Int32) else (2 : Int32)) else (3 : Int32))) (v207_27 : Int64) (h_v207_27 : v207_27 = (if q < ss3 then (if q < ss2 then (q - (1 : Int64)) else (q - ss2)) else (q - ss3))) : ss2.toInt ≤ ss3.toInt := by
  have m1 := c_maskL x1 1099511627775 40 (by decide) (by decide)
  have m2 := c_maskL y1 1099511627775 40 (by decide) (by decide)
  have m3 := c_maskL z1 1099511627775 40 (by decide) (by decide)
  rw [← h_a] at m1
  rw [← h_b] at m2
  rw [← h_cz] at m3
  have o1 : (1 : Int64).toInt = 1 := rfl
  have t2 : ss2.toInt = 1 + a.toInt := by rw [h_ss2, x_ladd (by rw [o1]; omega) (by rw [o1]; omega), o1]
  have t3 : ss3.toInt = 1 + a.toInt + b.toInt := by
    have u1 : ((1 : Int64) + a).toInt = 1 + a.toInt := by rw [x_ladd (by rw [o1]; omega) (by rw [o1]; omega), o1]
    rw [h_ss3, x_ladd (by rw [u1]; omega) (by rw [u1]; omega), u1]
  omega
theorem own_law_19 (md : Int32) (x1 : Int64) (y1 : Int64) (z1 : Int64) (r1 : Int64) (s11_0 : Int32) (h_s11_0 : s11_0 = (if (md &&& (1 : Int32)) = (0 : Int32) then (0 : Int32) else (1 : Int32))) (a : Int64) (h_a : a = (x1 &&& (1099511627775 : Int64))) (b : Int64) (h_b : b = (y1 &&& (1099511627775 : Int64))) (cz : Int64) (h_cz : cz = (z1 &&& (1099511627775 : Int64))) (hc49 : ¬ (s11_0 = (0 : Int32))) (bl65 : Int64) (h_bl65 : bl65 = ((0 : Int64) + a)) (bl72 : Int64) (h_bl72 : bl72 = (bl65 + b)) (bl79 : Int64) (h_bl79 : bl79 = (bl72 + cz)) (kk : Int64) (h_kk : kk = ((a + b) + cz)) (z94 : Int32) (h_z94 : z94 = (Int32.ofNat 17)) (hc123 : ¬ (kk = (0 : Int64))) (q : Int64) (h_q : q = ((1 : Int64) + ((r1 &&& (9223372036854775807 : Int64)) % kk))) (ss2 : Int64) (h_ss2 : ss2 = ((1 : Int64) + a)) (ss3 : Int64) (h_ss3 : ss3 = (((1 : Int64) + a) + b)) (v207_26 : Int32) (h_v207_26 : v207_26 = (if q < ss3 then (if q < ss2 then (1 : Int32) else (2 : Int32)) else (3 : Int32))) (v207_27 : Int64) (h_v207_27 : v207_27 = (if q < ss3 then (if q < ss2 then (q - (1 : Int64)) else (q - ss2)) else (q - ss3))) : 1 ≤ q.toInt := by
  have m1 := c_maskL x1 1099511627775 40 (by decide) (by decide)
  have m2 := c_maskL y1 1099511627775 40 (by decide) (by decide)
  have m3 := c_maskL z1 1099511627775 40 (by decide) (by decide)
  rw [← h_a] at m1
  rw [← h_b] at m2
  rw [← h_cz] at m3
  have o1 : (1 : Int64).toInt = 1 := rfl
  have k1 : kk.toInt = a.toInt + b.toInt + cz.toInt := by
    have u1 : (a + b).toInt = a.toInt + b.toInt := x_ladd (by omega) (by omega)
    rw [h_kk, x_ladd (by rw [u1]; omega) (by rw [u1]; omega), u1]
  have k0 : ¬ kk.toInt = 0 := fun w => hc123 (by rw [← Int64.toInt_inj, w]; rfl)
  have mr := c_maskL r1 9223372036854775807 63 (by decide) (by decide)
  have rr := (c_lmod (r1 &&& 9223372036854775807) kk kk.toInt rfl).1 (by rw [mr]; omega)
  have e1 := Int.emod_nonneg (r1 &&& 9223372036854775807).toInt (show kk.toInt ≠ 0 by omega)
  have e2 := Int.emod_lt_of_pos (r1 &&& 9223372036854775807).toInt (show 0 < kk.toInt by omega)
  rw [h_q, x_ladd (by rw [rr, o1]; omega) (by rw [rr, o1]; omega), rr, o1]; omega
theorem own_law_20 (md : Int32) (x1 : Int64) (y1 : Int64) (z1 : Int64) (r1 : Int64) (s11_0 : Int32) (h_s11_0 : s11_0 = (if (md &&& (1 : Int32)) = (0 : Int32) then (0 : Int32) else (1 : Int32))) (a : Int64) (h_a : a = (x1 &&& (1099511627775 : Int64))) (b : Int64) (h_b : b = (y1 &&& (1099511627775 : Int64))) (cz : Int64) (h_cz : cz = (z1 &&& (1099511627775 : Int64))) (hc49 : ¬ (s11_0 = (0 : Int32))) (bl65 : Int64) (h_bl65 : bl65 = ((0 : Int64) + a)) (bl72 : Int64) (h_bl72 : bl72 = (bl65 + b)) (bl79 : Int64) (h_bl79 : bl79 = (bl72 + cz)) (kk : Int64) (h_kk : kk = ((a + b) + cz)) (z94 : Int32) (h_z94 : z94 = (Int32.ofNat 17)) (hc123 : ¬ (kk = (0 : Int64))) (q : Int64) (h_q : q = ((1 : Int64) + ((r1 &&& (9223372036854775807 : Int64)) % kk))) (ss2 : Int64) (h_ss2 : ss2 = ((1 : Int64) + a)) (ss3 : Int64) (h_ss3 : ss3 = (((1 : Int64) + a) + b)) (v207_26 : Int32) (h_v207_26 : v207_26 = (if q < ss3 then (if q < ss2 then (1 : Int32) else (2 : Int32)) else (3 : Int32))) (v207_27 : Int64) (h_v207_27 : v207_27 = (if q < ss3 then (if q < ss2 then (q - (1 : Int64)) else (q - ss2)) else (q - ss3))) : bl65 + (1 : Int64) = ss2 := by
  subst_vars; rw [Int64.zero_add, Int64.add_comm]
theorem own_law_21 (md : Int32) (x1 : Int64) (y1 : Int64) (z1 : Int64) (r1 : Int64) (s11_0 : Int32) (h_s11_0 : s11_0 = (if (md &&& (1 : Int32)) = (0 : Int32) then (0 : Int32) else (1 : Int32))) (a : Int64) (h_a : a = (x1 &&& (1099511627775 : Int64))) (b : Int64) (h_b : b = (y1 &&& (1099511627775 : Int64))) (cz : Int64) (h_cz : cz = (z1 &&& (1099511627775 : Int64))) (hc49 : ¬ (s11_0 = (0 : Int32))) (bl65 : Int64) (h_bl65 : bl65 = ((0 : Int64) + a)) (bl72 : Int64) (h_bl72 : bl72 = (bl65 + b)) (bl79 : Int64) (h_bl79 : bl79 = (bl72 + cz)) (kk : Int64) (h_kk : kk = ((a + b) + cz)) (z94 : Int32) (h_z94 : z94 = (Int32.ofNat 17)) (hc123 : ¬ (kk = (0 : Int64))) (q : Int64) (h_q : q = ((1 : Int64) + ((r1 &&& (9223372036854775807 : Int64)) % kk))) (ss2 : Int64) (h_ss2 : ss2 = ((1 : Int64) + a)) (ss3 : Int64) (h_ss3 : ss3 = (((1 : Int64) + a) + b)) (v207_26 : Int32) (h_v207_26 : v207_26 = (if q < ss3 then (if q < ss2 then (1 : Int32) else (2 : Int32)) else (3 : Int32))) (v207_27 : Int64) (h_v207_27 : v207_27 = (if q < ss3 then (if q < ss2 then (q - (1 : Int64)) else (q - ss2)) else (q - ss3))) : bl72 + (1 : Int64) = ss3 := by
  subst_vars; rw [Int64.zero_add, Int64.add_comm, Int64.add_assoc]
theorem own_law_22 (md : Int32) (x1 : Int64) (y1 : Int64) (z1 : Int64) (r1 : Int64) (s11_0 : Int32) (h_s11_0 : s11_0 = (if (md &&& (1 : Int32)) = (0 : Int32) then (0 : Int32) else (1 : Int32))) (a : Int64) (h_a : a = (x1 &&& (1099511627775 : Int64))) (b : Int64) (h_b : b = (y1 &&& (1099511627775 : Int64))) (cz : Int64) (h_cz : cz = (z1 &&& (1099511627775 : Int64))) (hc49 : ¬ (s11_0 = (0 : Int32))) (bl65 : Int64) (h_bl65 : bl65 = ((0 : Int64) + a)) (bl72 : Int64) (h_bl72 : bl72 = (bl65 + b)) (bl79 : Int64) (h_bl79 : bl79 = (bl72 + cz)) (kk : Int64) (h_kk : kk = ((a + b) + cz)) (z94 : Int32) (h_z94 : z94 = (Int32.ofNat 17)) (hc123 : ¬ (kk = (0 : Int64))) (q : Int64) (h_q : q = ((1 : Int64) + ((r1 &&& (9223372036854775807 : Int64)) % kk))) (ss2 : Int64) (h_ss2 : ss2 = ((1 : Int64) + a)) (ss3 : Int64) (h_ss3 : ss3 = (((1 : Int64) + a) + b)) (v207_26 : Int32) (h_v207_26 : v207_26 = (if q < ss3 then (if q < ss2 then (1 : Int32) else (2 : Int32)) else (3 : Int32))) (v207_27 : Int64) (h_v207_27 : v207_27 = (if q < ss3 then (if q < ss2 then (q - (1 : Int64)) else (q - ss2)) else (q - ss3))) (rho135 : Nat) (gr136 : Int64) (HR151 : (q < ss2 → rho135 = 14 ∧ gr136 = 1) ∧ (¬ q < ss2 → q < ss3 → rho135 = 14 + 1 ∧ gr136 = ss2) ∧ (¬ q < ss3 → rho135 = 14 + 2 ∧ gr136 = ss3)) (z218 : Int32) (h_z218 : z218 = (Int32.ofNat (rho135 + 1))) : z218 = ((14 : Int32) + v207_26) := by
  obtain ⟨a1, a2, a3⟩ := HR151
  rw [h_z218, h_v207_26]
  by_cases c3 : q < ss3
  · by_cases c2 : q < ss2
    · rw [(a1 c2).1, if_pos c3, if_pos c2]; decide
    · rw [(a2 c2 c3).1, if_pos c3, if_neg c2]; decide
  · rw [(a3 c3).1, if_neg c3]; decide
theorem own_law_23 (md : Int32) (x1 : Int64) (y1 : Int64) (z1 : Int64) (r1 : Int64) (s11_0 : Int32) (h_s11_0 : s11_0 = (if (md &&& (1 : Int32)) = (0 : Int32) then (0 : Int32) else (1 : Int32))) (a : Int64) (h_a : a = (x1 &&& (1099511627775 : Int64))) (b : Int64) (h_b : b = (y1 &&& (1099511627775 : Int64))) (cz : Int64) (h_cz : cz = (z1 &&& (1099511627775 : Int64))) (hc49 : ¬ (s11_0 = (0 : Int32))) (bl65 : Int64) (h_bl65 : bl65 = ((0 : Int64) + a)) (bl72 : Int64) (h_bl72 : bl72 = (bl65 + b)) (bl79 : Int64) (h_bl79 : bl79 = (bl72 + cz)) (kk : Int64) (h_kk : kk = ((a + b) + cz)) (z94 : Int32) (h_z94 : z94 = (Int32.ofNat 17)) (hc123 : ¬ (kk = (0 : Int64))) (q : Int64) (h_q : q = ((1 : Int64) + ((r1 &&& (9223372036854775807 : Int64)) % kk))) (ss2 : Int64) (h_ss2 : ss2 = ((1 : Int64) + a)) (ss3 : Int64) (h_ss3 : ss3 = (((1 : Int64) + a) + b)) (v207_26 : Int32) (h_v207_26 : v207_26 = (if q < ss3 then (if q < ss2 then (1 : Int32) else (2 : Int32)) else (3 : Int32))) (v207_27 : Int64) (h_v207_27 : v207_27 = (if q < ss3 then (if q < ss2 then (q - (1 : Int64)) else (q - ss2)) else (q - ss3))) (rho135 : Nat) (gr136 : Int64) (HR151 : (q < ss2 → rho135 = 14 ∧ gr136 = 1) ∧ (¬ q < ss2 → q < ss3 → rho135 = 14 + 1 ∧ gr136 = ss2) ∧ (¬ q < ss3 → rho135 = 14 + 2 ∧ gr136 = ss3)) (z218 : Int32) (h_z218 : z218 = (Int32.ofNat (rho135 + 1))) (z231 : Int64) (h_z231 : z231 = (q - gr136)) : z231 = v207_27 := by
  obtain ⟨a1, a2, a3⟩ := HR151
  rw [h_z231, h_v207_27]
  by_cases c3 : q < ss3
  · by_cases c2 : q < ss2
    · rw [(a1 c2).2, if_pos c3, if_pos c2]
    · rw [(a2 c2 c3).2, if_pos c3, if_neg c2]
  · rw [(a3 c3).2, if_neg c3]
theorem own_law_24 (md : Int32) (x1 : Int64) (y1 : Int64) (z1 : Int64) (r1 : Int64) (s11_0 : Int32) (h_s11_0 : s11_0 = (if (md &&& (1 : Int32)) = (0 : Int32) then (0 : Int32) else (1 : Int32))) (a : Int64) (h_a : a = (x1 &&& (1099511627775 : Int64))) (b : Int64) (h_b : b = (y1 &&& (1099511627775 : Int64))) (cz : Int64) (h_cz : cz = (z1 &&& (1099511627775 : Int64))) (hc49 : ¬ (s11_0 = (0 : Int32))) (bl65 : Int64) (h_bl65 : bl65 = ((0 : Int64) + a)) (bl72 : Int64) (h_bl72 : bl72 = (bl65 + b)) (bl79 : Int64) (h_bl79 : bl79 = (bl72 + cz)) (kk : Int64) (h_kk : kk = ((a + b) + cz)) (z94 : Int32) (h_z94 : z94 = (Int32.ofNat 17)) (hc123 : ¬ (kk = (0 : Int64))) (q : Int64) (h_q : q = ((1 : Int64) + ((r1 &&& (9223372036854775807 : Int64)) % kk))) (ss2 : Int64) (h_ss2 : ss2 = ((1 : Int64) + a)) (ss3 : Int64) (h_ss3 : ss3 = (((1 : Int64) + a) + b)) (v207_26 : Int32) (h_v207_26 : v207_26 = (if q < ss3 then (if q < ss2 then (1 : Int32) else (2 : Int32)) else (3 : Int32))) (v207_27 : Int64) (h_v207_27 : v207_27 = (if q < ss3 then (if q < ss2 then (q - (1 : Int64)) else (q - ss2)) else (q - ss3))) (rho135 : Nat) (gr136 : Int64) (HR151 : (q < ss2 → rho135 = 14 ∧ gr136 = 1) ∧ (¬ q < ss2 → q < ss3 → rho135 = 14 + 1 ∧ gr136 = ss2) ∧ (¬ q < ss3 → rho135 = 14 + 2 ∧ gr136 = ss3)) (z218 : Int32) (h_z218 : z218 = (Int32.ofNat (rho135 + 1))) (z231 : Int64) (h_z231 : z231 = (q - gr136)) : nar .boolean (1 : Int32) = 1 := by
  rfl
theorem pn_law : plainFor x = true := by first | (refine plainFor_of_name ?_; show plainName "com/example/attestore/attestore/server/BlockIndexAddPinLaw" = true; simp [plainName, overriddenIn]; done) | decide +kernel
set_option maxRecDepth 65536 in
set_option maxHeartbeats 40000000 in
theorem c_law (l : Launch) (Z : State) (a0 : Array Value) (hw : ∀ d ∈ tables_1, d.before a0 Z = true) (md : Int32) (x1 : Int64) (y1 : Int64) (z1 : Int64) (r1 : Int64) (h0 : Heap) (n0 : Nat) (Z0 : n0 ≤ h0.size) :
    Con l Z x code maxLocals ret room_1 #[.int md, .long x1, .long y1, .long z1, .long r1] h0 n0 QL tables_1 := by
  refine con_of_wp pn_law (L0 := #[.val (.int md), .val (.long x1), .second, .val (.long y1), .second, .val (.long z1), .second, .val (.long r1), .second, .unset, .unset, .unset, .unset, .unset, .unset, .unset, .unset, .unset, .unset, .unset, .unset, .unset, .unset, .unset, .unset, .unset, .unset, .unset, .unset, .unset]) (fun m => by first | (simp [entryFrame, mkF, argsToLocals, Value.category, maxLocals]; done) | rfl) (fun X hl ok => ?_)
  subst hl
  have hK : Konst Z a0 "com/example/attestore/attestore/server/BlockIndexAddPinLaw" k_law := ⟨Or.inr ⟨_, rfl, wd hw 0 rfl⟩, ⟨Or.inr ⟨_, rfl, wd hw 32 rfl⟩, trivial⟩⟩
  refine wp_run ok hK (B := [(0, .iload_n 0, false), (1, .iconst 1, false), (2, .iand, false)]) (by decide +kernel) (ps := []) (pc' := 3) (L' := #[.val (.int md), .val (.long x1), .second, .val (.long y1), .second, .val (.long z1), .second, .val (.long r1), .second, .unset, .unset, .unset, .unset, .unset, .unset, .unset, .unset, .unset, .unset, .unset, .unset, .unset, .unset, .unset, .unset, .unset, .unset, .unset, .unset, .unset]) (S' := [.int (md &&& (1 : Int32))]) rfl trivial ?_
  have J11_2 : ∀ (s11_0 : Int32) (h_s11_0 : s11_0 = (if (md &&& (1 : Int32)) = (0 : Int32) then (0 : Int32) else (1 : Int32))), WP X n0 QL h0 0 0 11 #[.val (.int md), .val (.long x1), .second, .val (.long y1), .second, .val (.long z1), .second, .val (.long r1), .second, .unset, .unset, .unset, .unset, .unset, .unset, .unset, .unset, .unset, .unset, .unset, .unset, .unset, .unset, .unset, .unset, .unset, .unset, .unset, .unset, .unset] [.int s11_0] := by
    intro s11_0 h_s11_0
    refine wp_run ok hK (B := [(11, .istore 9, false), (13, .lload_n 1, false), (14, .ldc2_w 13, false), (17, .land, false), (18, .lstore 10, false)]) (by decide +kernel) (ps := []) (pc' := 20) (L' := #[.val (.int md), .val (.long x1), .second, .val (.long y1), .second, .val (.long z1), .second, .val (.long r1), .second, .val (.int s11_0), .val (.long (x1 &&& (1099511627775 : Int64))), .second, .unset, .unset, .unset, .unset, .unset, .unset, .unset, .unset, .unset, .unset, .unset, .unset, .unset, .unset, .unset, .unset, .unset, .unset]) (S' := []) rfl trivial ?_
    obtain ⟨a, h_a⟩ : ∃ z : Int64, z = (x1 &&& (1099511627775 : Int64)) := ⟨_, rfl⟩
    rw [← h_a]
    refine wp_run ok hK (B := [(20, .lload_n 3, false), (21, .ldc2_w 13, false), (24, .land, false), (25, .lstore 12, false)]) (by decide +kernel) (ps := []) (pc' := 27) (L' := #[.val (.int md), .val (.long x1), .second, .val (.long y1), .second, .val (.long z1), .second, .val (.long r1), .second, .val (.int s11_0), .val (.long a), .second, .val (.long (y1 &&& (1099511627775 : Int64))), .second, .unset, .unset, .unset, .unset, .unset, .unset, .unset, .unset, .unset, .unset, .unset, .unset, .unset, .unset, .unset, .unset]) (S' := []) rfl trivial ?_
    obtain ⟨b, h_b⟩ : ∃ z : Int64, z = (y1 &&& (1099511627775 : Int64)) := ⟨_, rfl⟩
    rw [← h_b]
    refine wp_run ok hK (B := [(27, .lload 5, false), (29, .ldc2_w 13, false), (32, .land, false), (33, .lstore 14, false)]) (by decide +kernel) (ps := []) (pc' := 35) (L' := #[.val (.int md), .val (.long x1), .second, .val (.long y1), .second, .val (.long z1), .second, .val (.long r1), .second, .val (.int s11_0), .val (.long a), .second, .val (.long b), .second, .val (.long (z1 &&& (1099511627775 : Int64))), .second, .unset, .unset, .unset, .unset, .unset, .unset, .unset, .unset, .unset, .unset, .unset, .unset, .unset, .unset]) (S' := []) rfl trivial ?_
    obtain ⟨cz, h_cz⟩ : ∃ z : Int64, z = (z1 &&& (1099511627775 : Int64)) := ⟨_, rfl⟩
    rw [← h_cz]
    refine wp_new ok (wd hw 1 rfl) (wd hw 2 rfl) (wd hw 3 rfl) (by decide +kernel) (by decide) (by decide) ?_
    intro h3 a4 ea5 X6 E7 D8
    have Z9 : n0 ≤ h3.size := Nat.le_trans Z0 X6.1
    have g10 : n0 ≤ a4 := by rw [ea5]; exact Z0
    have F11 : Fld Z h3 a4 "com/example/attestore/attestore/server/BlockIndex" "starts" "[J" (.null) := D8 (Or.inl (wd hw 12 rfl)) (ty := (.array .long)) (by decide)
    have F12 : Fld Z h3 a4 "com/example/attestore/attestore/server/BlockIndex" "files" "I" (.int (0 : Int32)) := D8 (Or.inl (wd hw 19 rfl)) (ty := .int) (by decide)
    have F13 : Fld Z h3 a4 "com/example/attestore/attestore/server/BlockIndex" "blocks" "J" (.long (0 : Int64)) := D8 (Or.inl (wd hw 21 rfl)) (ty := .long) (by decide)
    refine wp_run ok hK (B := [(38, .dup, false)]) (by decide +kernel) (ps := []) (pc' := 39) (L' := #[.val (.int md), .val (.long x1), .second, .val (.long y1), .second, .val (.long z1), .second, .val (.long r1), .second, .val (.int s11_0), .val (.long a), .second, .val (.long b), .second, .val (.long cz), .second, .unset, .unset, .unset, .unset, .unset, .unset, .unset, .unset, .unset, .unset, .unset, .unset, .unset, .unset]) (S' := [(.ref a4), (.ref a4)]) rfl trivial ?_
    refine wp_special ok rfl (wd hw 4 rfl) (wd hw 5 rfl) (wd hw 3 rfl) (wd hw 6 rfl) (by decide) (argsL := []) (rest := [(.ref a4)]) (c_ini _ Z a0 hw a4 h3 n0 Z9 E7 F11 F12 F13 g10) (ps := []) (by decide +kernel) (by rfl) (by rfl) (by rfl) (by decide +kernel) (by decide) (Nat.le_of_ble_eq_true rfl) (by decide) (by decide) ?_
    intro r16 h17 q18
    obtain ⟨rfl, z14, B15⟩ := q18
    have Z19 : n0 ≤ h17.size := Nat.le_trans Z9 z14
    have m20 : n0 ≤ h3.size := Z9
    show WP X n0 QL h17 2 19 42 #[.val (.int md), .val (.long x1), .second, .val (.long y1), .second, .val (.long z1), .second, .val (.long r1), .second, .val (.int s11_0), .val (.long a), .second, .val (.long b), .second, .val (.long cz), .second, .unset, .unset, .unset, .unset, .unset, .unset, .unset, .unset, .unset, .unset, .unset, .unset, .unset, .unset] [(.ref a4)]
    refine wp_run ok hK (B := [(42, .astore 16, false), (44, .iconst 0, false), (45, .istore 17, false)]) (by decide +kernel) (ps := []) (pc' := 47) (L' := #[.val (.int md), .val (.long x1), .second, .val (.long y1), .second, .val (.long z1), .second, .val (.long r1), .second, .val (.int s11_0), .val (.long a), .second, .val (.long b), .second, .val (.long cz), .second, .val ((.ref a4)), .val (.int (0 : Int32)), .unset, .unset, .unset, .unset, .unset, .unset, .unset, .unset, .unset, .unset, .unset, .unset]) (S' := []) rfl trivial ?_
    refine wp_run ok hK (B := [(47, .iload 9, false)]) (by decide +kernel) (ps := []) (pc' := 49) (L' := #[.val (.int md), .val (.long x1), .second, .val (.long y1), .second, .val (.long z1), .second, .val (.long r1), .second, .val (.int s11_0), .val (.long a), .second, .val (.long b), .second, .val (.long cz), .second, .val ((.ref a4)), .val (.int (0 : Int32)), .unset, .unset, .unset, .unset, .unset, .unset, .unset, .unset, .unset, .unset, .unset, .unset]) (S' := [.int s11_0]) rfl trivial ?_
    by_cases hc49 : s11_0 = (0 : Int32)
    · refine wp_run ok hK (B := [(49, .ifCond .eq 12, true)]) (by decide +kernel) (ps := [Op.ifCond.holds .eq s11_0 = true]) (pc' := 61) (L' := #[.val (.int md), .val (.long x1), .second, .val (.long y1), .second, .val (.long z1), .second, .val (.long r1), .second, .val (.int s11_0), .val (.long a), .second, .val (.long b), .second, .val (.long cz), .second, .val ((.ref a4)), .val (.int (0 : Int32)), .unset, .unset, .unset, .unset, .unset, .unset, .unset, .unset, .unset, .unset, .unset, .unset]) (S' := []) rfl ⟨(XT.i0_eq_t hc49), trivial⟩ ?_
      refine wp_run ok hK (B := [(61, .aload 16, false), (63, .lload 10, false)]) (by decide +kernel) (ps := []) (pc' := 65) (L' := #[.val (.int md), .val (.long x1), .second, .val (.long y1), .second, .val (.long z1), .second, .val (.long r1), .second, .val (.int s11_0), .val (.long a), .second, .val (.long b), .second, .val (.long cz), .second, .val ((.ref a4)), .val (.int (0 : Int32)), .unset, .unset, .unset, .unset, .unset, .unset, .unset, .unset, .unset, .unset, .unset, .unset]) (S' := [.long a, (.ref a4)]) rfl trivial ?_
      refine wp_virtual ok (wd hw 13 rfl) (wd hw 14 rfl) (wd hw 16 rfl) (wd hw 15 rfl) (wd hw 3 rfl) (wd hw 17 rfl) (by decide) (argsL := [.long a]) (rest := []) B15.1 (c_ad1 _ Z a0 hw a4 a 16 0 (0 : Int64) (fun _ => 0) h3.size h17 n0 Z19 B15 m20 g10 (by decide) (by decide)) (ps := [.long]) (by decide +kernel) (by rfl) (by rfl) (by rfl) (by decide +kernel) (by decide) (Nat.le_of_ble_eq_true rfl) (by decide) (by decide) ?_
      intro r26 h27 q28
      obtain ⟨rfl, z21, gf22, B23, e24, e25⟩ := q28
      obtain ⟨bl65, h_bl65⟩ : ∃ z : Int64, z = ((0 : Int64) + a) := ⟨_, rfl⟩
      rw [← h_bl65] at B23
      have B29 : BX Z h27 a4 16 1 bl65 gf22 h3.size := B23
      have Z30 : n0 ≤ h27.size := Nat.le_trans Z19 z21
      show WP X n0 QL h27 2 19 68 #[.val (.int md), .val (.long x1), .second, .val (.long y1), .second, .val (.long z1), .second, .val (.long r1), .second, .val (.int s11_0), .val (.long a), .second, .val (.long b), .second, .val (.long cz), .second, .val ((.ref a4)), .val (.int (0 : Int32)), .unset, .unset, .unset, .unset, .unset, .unset, .unset, .unset, .unset, .unset, .unset, .unset] []
      refine wp_run ok hK (B := [(68, .aload 16, false), (70, .lload 12, false)]) (by decide +kernel) (ps := []) (pc' := 72) (L' := #[.val (.int md), .val (.long x1), .second, .val (.long y1), .second, .val (.long z1), .second, .val (.long r1), .second, .val (.int s11_0), .val (.long a), .second, .val (.long b), .second, .val (.long cz), .second, .val ((.ref a4)), .val (.int (0 : Int32)), .unset, .unset, .unset, .unset, .unset, .unset, .unset, .unset, .unset, .unset, .unset, .unset]) (S' := [.long b, (.ref a4)]) rfl trivial ?_
      refine wp_virtual ok (wd hw 13 rfl) (wd hw 14 rfl) (wd hw 16 rfl) (wd hw 15 rfl) (wd hw 3 rfl) (wd hw 17 rfl) (by decide) (argsL := [.long b]) (rest := []) B29.1 (c_ad1 _ Z a0 hw a4 b 16 1 bl65 gf22 h3.size h27 n0 Z30 B29 m20 g10 (by decide) (by decide)) (ps := [.long]) (by decide +kernel) (by rfl) (by rfl) (by rfl) (by decide +kernel) (by decide) (Nat.le_of_ble_eq_true rfl) (by decide) (by decide) ?_
      intro r36 h37 q38
      obtain ⟨rfl, z31, gf32, B33, e34, e35⟩ := q38
      obtain ⟨bl72, h_bl72⟩ : ∃ z : Int64, z = (bl65 + b) := ⟨_, rfl⟩
      rw [← h_bl72] at B33
      have B39 : BX Z h37 a4 16 2 bl72 gf32 h3.size := B33
      have Z40 : n0 ≤ h37.size := Nat.le_trans Z30 z31
      show WP X n0 QL h37 2 19 75 #[.val (.int md), .val (.long x1), .second, .val (.long y1), .second, .val (.long z1), .second, .val (.long r1), .second, .val (.int s11_0), .val (.long a), .second, .val (.long b), .second, .val (.long cz), .second, .val ((.ref a4)), .val (.int (0 : Int32)), .unset, .unset, .unset, .unset, .unset, .unset, .unset, .unset, .unset, .unset, .unset, .unset] []
      refine wp_run ok hK (B := [(75, .aload 16, false), (77, .lload 14, false)]) (by decide +kernel) (ps := []) (pc' := 79) (L' := #[.val (.int md), .val (.long x1), .second, .val (.long y1), .second, .val (.long z1), .second, .val (.long r1), .second, .val (.int s11_0), .val (.long a), .second, .val (.long b), .second, .val (.long cz), .second, .val ((.ref a4)), .val (.int (0 : Int32)), .unset, .unset, .unset, .unset, .unset, .unset, .unset, .unset, .unset, .unset, .unset, .unset]) (S' := [.long cz, (.ref a4)]) rfl trivial ?_
      refine wp_virtual ok (wd hw 13 rfl) (wd hw 14 rfl) (wd hw 16 rfl) (wd hw 15 rfl) (wd hw 3 rfl) (wd hw 17 rfl) (by decide) (argsL := [.long cz]) (rest := []) B39.1 (c_ad1 _ Z a0 hw a4 cz 16 2 bl72 gf32 h3.size h37 n0 Z40 B39 m20 g10 (by decide) (by decide)) (ps := [.long]) (by decide +kernel) (by rfl) (by rfl) (by rfl) (by decide +kernel) (by decide) (Nat.le_of_ble_eq_true rfl) (by decide) (by decide) ?_
      intro r46 h47 q48
      obtain ⟨rfl, z41, gf42, B43, e44, e45⟩ := q48
      obtain ⟨bl79, h_bl79⟩ : ∃ z : Int64, z = (bl72 + cz) := ⟨_, rfl⟩
      rw [← h_bl79] at B43
      have B49 : BX Z h47 a4 16 3 bl79 gf42 h3.size := B43
      have Z50 : n0 ≤ h47.size := Nat.le_trans Z40 z41
      show WP X n0 QL h47 2 19 82 #[.val (.int md), .val (.long x1), .second, .val (.long y1), .second, .val (.long z1), .second, .val (.long r1), .second, .val (.int s11_0), .val (.long a), .second, .val (.long b), .second, .val (.long cz), .second, .val ((.ref a4)), .val (.int (0 : Int32)), .unset, .unset, .unset, .unset, .unset, .unset, .unset, .unset, .unset, .unset, .unset, .unset] []
      refine wp_run ok hK (B := [(82, .lload 10, false), (84, .lload 12, false), (86, .ladd, false), (87, .lload 14, false), (89, .ladd, false), (90, .lstore 18, false)]) (by decide +kernel) (ps := []) (pc' := 92) (L' := #[.val (.int md), .val (.long x1), .second, .val (.long y1), .second, .val (.long z1), .second, .val (.long r1), .second, .val (.int s11_0), .val (.long a), .second, .val (.long b), .second, .val (.long cz), .second, .val ((.ref a4)), .val (.int (0 : Int32)), .val (.long ((a + b) + cz)), .second, .unset, .unset, .unset, .unset, .unset, .unset, .unset, .unset, .unset, .unset]) (S' := []) rfl trivial ?_
      obtain ⟨kk, h_kk⟩ : ∃ z : Int64, z = ((a + b) + cz) := ⟨_, rfl⟩
      rw [← h_kk]
      refine wp_run ok hK (B := [(92, .aload 16, false)]) (by decide +kernel) (ps := []) (pc' := 94) (L' := #[.val (.int md), .val (.long x1), .second, .val (.long y1), .second, .val (.long z1), .second, .val (.long r1), .second, .val (.int s11_0), .val (.long a), .second, .val (.long b), .second, .val (.long cz), .second, .val ((.ref a4)), .val (.int (0 : Int32)), .val (.long kk), .second, .unset, .unset, .unset, .unset, .unset, .unset, .unset, .unset, .unset, .unset]) (S' := [(.ref a4)]) rfl trivial ?_
      refine wp_virtual ok (wd hw 22 rfl) (wd hw 23 rfl) (wd hw 25 rfl) (wd hw 24 rfl) (wd hw 3 rfl) (wd hw 26 rfl) (by decide) (argsL := []) (rest := []) B49.1 (c_fil _ Z a0 hw a4 16 3 bl79 gf42 h3.size h47 n0 Z50 B49 m20 g10) (ps := []) (by decide +kernel) (by rfl) (by rfl) (by rfl) (by decide +kernel) (by decide) (Nat.le_of_ble_eq_true rfl) (by decide) (by decide) ?_
      intro r51 h52 q53
      obtain ⟨e54, rfl⟩ := q53
      obtain ⟨z94, h_z94⟩ : ∃ z : Int32, z = (Int32.ofNat 3) := ⟨_, rfl⟩
      have e54' := e54.trans (show _ = some (Value.int z94) by rw [h_z94])
      subst e54'
      show WP X n0 QL h47 2 19 97 #[.val (.int md), .val (.long x1), .second, .val (.long y1), .second, .val (.long z1), .second, .val (.long r1), .second, .val (.int s11_0), .val (.long a), .second, .val (.long b), .second, .val (.long cz), .second, .val ((.ref a4)), .val (.int (0 : Int32)), .val (.long kk), .second, .unset, .unset, .unset, .unset, .unset, .unset, .unset, .unset, .unset, .unset] [.int z94]
      refine wp_run ok hK (B := [(97, .iload 17, false), (99, .iconst 3, false), (100, .iadd, false), (101, .if_icmp .eq 5, true), (106, .aload 16, false)]) (by decide +kernel) (ps := [Op.if_icmp.holds .eq z94 (3 : Int32) = true]) (pc' := 108) (L' := #[.val (.int md), .val (.long x1), .second, .val (.long y1), .second, .val (.long z1), .second, .val (.long r1), .second, .val (.int s11_0), .val (.long a), .second, .val (.long b), .second, .val (.long cz), .second, .val ((.ref a4)), .val (.int (0 : Int32)), .val (.long kk), .second, .unset, .unset, .unset, .unset, .unset, .unset, .unset, .unset, .unset, .unset]) (S' := [(.ref a4)]) rfl ⟨(XT.ii_eq_t (own_law_1 md x1 y1 z1 r1 s11_0 h_s11_0 a h_a b h_b cz h_cz hc49 bl65 h_bl65 bl72 h_bl72 bl79 h_bl79 kk h_kk z94 h_z94)), trivial⟩ ?_
      refine wp_virtual ok (wd hw 27 rfl) (wd hw 28 rfl) (wd hw 30 rfl) (wd hw 29 rfl) (wd hw 3 rfl) (wd hw 31 rfl) (by decide) (argsL := []) (rest := []) B49.1 (c_blo _ Z a0 hw a4 16 3 bl79 gf42 h3.size h47 n0 Z50 B49 m20 g10) (ps := []) (by decide +kernel) (by rfl) (by rfl) (by rfl) (by decide +kernel) (by decide) (Nat.le_of_ble_eq_true rfl) (by decide) (by decide) ?_
      intro r55 h56 q57
      obtain ⟨rfl, rfl⟩ := q57
      show WP X n0 QL h47 2 19 111 #[.val (.int md), .val (.long x1), .second, .val (.long y1), .second, .val (.long z1), .second, .val (.long r1), .second, .val (.int s11_0), .val (.long a), .second, .val (.long b), .second, .val (.long cz), .second, .val ((.ref a4)), .val (.int (0 : Int32)), .val (.long kk), .second, .unset, .unset, .unset, .unset, .unset, .unset, .unset, .unset, .unset, .unset] [.long bl79]
      refine wp_run ok hK (B := [(111, .lload 18, false), (113, .lcmp, false), (114, .ifCond .eq 5, true), (119, .lload 18, false), (121, .lconst 0, false), (122, .lcmp, false)]) (by decide +kernel) (ps := [Op.ifCond.holds .eq (cmpL bl79 kk) = true]) (pc' := 123) (L' := #[.val (.int md), .val (.long x1), .second, .val (.long y1), .second, .val (.long z1), .second, .val (.long r1), .second, .val (.int s11_0), .val (.long a), .second, .val (.long b), .second, .val (.long cz), .second, .val ((.ref a4)), .val (.int (0 : Int32)), .val (.long kk), .second, .unset, .unset, .unset, .unset, .unset, .unset, .unset, .unset, .unset, .unset]) (S' := [.int (cmpL kk (0 : Int64))]) rfl ⟨(XT.ll_eq_t (own_law_2 md x1 y1 z1 r1 s11_0 h_s11_0 a h_a b h_b cz h_cz hc49 bl65 h_bl65 bl72 h_bl72 bl79 h_bl79 kk h_kk z94 h_z94)), trivial⟩ ?_
      by_cases hc123 : kk = (0 : Int64)
      · refine wp_run ok hK (B := [(123, .ifCond .ne 5, false)]) (by decide +kernel) (ps := [Op.ifCond.holds .ne (cmpL kk (0 : Int64)) = false]) (pc' := 126) (L' := #[.val (.int md), .val (.long x1), .second, .val (.long y1), .second, .val (.long z1), .second, .val (.long r1), .second, .val (.int s11_0), .val (.long a), .second, .val (.long b), .second, .val (.long cz), .second, .val ((.ref a4)), .val (.int (0 : Int32)), .val (.long kk), .second, .unset, .unset, .unset, .unset, .unset, .unset, .unset, .unset, .unset, .unset]) (S' := []) rfl ⟨(XT.ll_ne_f hc123), trivial⟩ ?_
        refine wp_run ok hK (B := [(126, .iconst 1, false)]) (by decide +kernel) (ps := []) (pc' := 127) (L' := #[.val (.int md), .val (.long x1), .second, .val (.long y1), .second, .val (.long z1), .second, .val (.long r1), .second, .val (.int s11_0), .val (.long a), .second, .val (.long b), .second, .val (.long cz), .second, .val ((.ref a4)), .val (.int (0 : Int32)), .val (.long kk), .second, .unset, .unset, .unset, .unset, .unset, .unset, .unset, .unset, .unset, .unset]) (S' := [.int (1 : Int32)]) rfl trivial ?_
        refine wp_retZ ok (t := .boolean) (by simp) (by decide +kernel) (by decide) (by decide) ?_
        exact congrArg (fun z => some (Value.int z)) (own_law_3 md x1 y1 z1 r1 s11_0 h_s11_0 a h_a b h_b cz h_cz hc49 bl65 h_bl65 bl72 h_bl72 bl79 h_bl79 kk h_kk z94 h_z94 hc123)
      · refine wp_run ok hK (B := [(123, .ifCond .ne 5, true)]) (by decide +kernel) (ps := [Op.ifCond.holds .ne (cmpL kk (0 : Int64)) = true]) (pc' := 128) (L' := #[.val (.int md), .val (.long x1), .second, .val (.long y1), .second, .val (.long z1), .second, .val (.long r1), .second, .val (.int s11_0), .val (.long a), .second, .val (.long b), .second, .val (.long cz), .second, .val ((.ref a4)), .val (.int (0 : Int32)), .val (.long kk), .second, .unset, .unset, .unset, .unset, .unset, .unset, .unset, .unset, .unset, .unset]) (S' := []) rfl ⟨(XT.ll_ne_t hc123), trivial⟩ ?_
        refine wp_run ok hK (B := [(128, .lconst 1, false), (129, .lload 7, false), (131, .ldc2_w 32, false), (134, .land, false), (135, .lload 18, false), (137, .lrem, false), (138, .ladd, false), (139, .lstore 20, false)]) (by decide +kernel) (ps := [kk ≠ 0]) (pc' := 141) (L' := #[.val (.int md), .val (.long x1), .second, .val (.long y1), .second, .val (.long z1), .second, .val (.long r1), .second, .val (.int s11_0), .val (.long a), .second, .val (.long b), .second, .val (.long cz), .second, .val ((.ref a4)), .val (.int (0 : Int32)), .val (.long kk), .second, .val (.long ((1 : Int64) + ((r1 &&& (9223372036854775807 : Int64)) % kk))), .second, .unset, .unset, .unset, .unset, .unset, .unset, .unset, .unset]) (S' := []) rfl ⟨(own_law_4 md x1 y1 z1 r1 s11_0 h_s11_0 a h_a b h_b cz h_cz hc49 bl65 h_bl65 bl72 h_bl72 bl79 h_bl79 kk h_kk z94 h_z94 hc123), trivial⟩ ?_
        obtain ⟨q, h_q⟩ : ∃ z : Int64, z = ((1 : Int64) + ((r1 &&& (9223372036854775807 : Int64)) % kk)) := ⟨_, rfl⟩
        rw [← h_q]
        refine wp_run ok hK (B := [(141, .lconst 1, false), (142, .lload 10, false), (144, .ladd, false), (145, .lstore 22, false)]) (by decide +kernel) (ps := []) (pc' := 147) (L' := #[.val (.int md), .val (.long x1), .second, .val (.long y1), .second, .val (.long z1), .second, .val (.long r1), .second, .val (.int s11_0), .val (.long a), .second, .val (.long b), .second, .val (.long cz), .second, .val ((.ref a4)), .val (.int (0 : Int32)), .val (.long kk), .second, .val (.long q), .second, .val (.long ((1 : Int64) + a)), .second, .unset, .unset, .unset, .unset, .unset, .unset]) (S' := []) rfl trivial ?_
        obtain ⟨ss2, h_ss2⟩ : ∃ z : Int64, z = ((1 : Int64) + a) := ⟨_, rfl⟩
        rw [← h_ss2]
        refine wp_run ok hK (B := [(147, .lconst 1, false), (148, .lload 10, false), (150, .ladd, false), (151, .lload 12, false), (153, .ladd, false), (154, .lstore 24, false)]) (by decide +kernel) (ps := []) (pc' := 156) (L' := #[.val (.int md), .val (.long x1), .second, .val (.long y1), .second, .val (.long z1), .second, .val (.long r1), .second, .val (.int s11_0), .val (.long a), .second, .val (.long b), .second, .val (.long cz), .second, .val ((.ref a4)), .val (.int (0 : Int32)), .val (.long kk), .second, .val (.long q), .second, .val (.long ss2), .second, .val (.long (((1 : Int64) + a) + b)), .second, .unset, .unset, .unset, .unset]) (S' := []) rfl trivial ?_
        obtain ⟨ss3, h_ss3⟩ : ∃ z : Int64, z = (((1 : Int64) + a) + b) := ⟨_, rfl⟩
        rw [← h_ss3]
        refine wp_run ok hK (B := [(156, .lload 20, false), (158, .lload 24, false), (160, .lcmp, false)]) (by decide +kernel) (ps := []) (pc' := 161) (L' := #[.val (.int md), .val (.long x1), .second, .val (.long y1), .second, .val (.long z1), .second, .val (.long r1), .second, .val (.int s11_0), .val (.long a), .second, .val (.long b), .second, .val (.long cz), .second, .val ((.ref a4)), .val (.int (0 : Int32)), .val (.long kk), .second, .val (.long q), .second, .val (.long ss2), .second, .val (.long ss3), .second, .unset, .unset, .unset, .unset]) (S' := [.int (cmpL q ss3)]) rfl trivial ?_
        have J207_60 : ∀ (v207_26 : Int32) (v207_27 : Int64) (h_v207_26 : v207_26 = (if q < ss3 then (if q < ss2 then (1 : Int32) else (2 : Int32)) else (3 : Int32))) (h_v207_27 : v207_27 = (if q < ss3 then (if q < ss2 then (q - (1 : Int64)) else (q - ss2)) else (q - ss3))), WP X n0 QL h47 2 19 207 #[.val (.int md), .val (.long x1), .second, .val (.long y1), .second, .val (.long z1), .second, .val (.long r1), .second, .val (.int s11_0), .val (.long a), .second, .val (.long b), .second, .val (.long cz), .second, .val ((.ref a4)), .val (.int (0 : Int32)), .val (.long kk), .second, .val (.long q), .second, .val (.long ss2), .second, .val (.long ss3), .second, .val (.int v207_26), .val (.long v207_27), .second, .unset] [] := by
          intro v207_26 v207_27 h_v207_26 h_v207_27
          refine wp_run ok hK (B := [(207, .aload 16, false), (209, .lload 20, false)]) (by decide +kernel) (ps := []) (pc' := 211) (L' := #[.val (.int md), .val (.long x1), .second, .val (.long y1), .second, .val (.long z1), .second, .val (.long r1), .second, .val (.int s11_0), .val (.long a), .second, .val (.long b), .second, .val (.long cz), .second, .val ((.ref a4)), .val (.int (0 : Int32)), .val (.long kk), .second, .val (.long q), .second, .val (.long ss2), .second, .val (.long ss3), .second, .val (.int v207_26), .val (.long v207_27), .second, .unset]) (S' := [.long q, (.ref a4)]) rfl trivial ?_
          have hs2 : 1 ≤ ss2.toInt := (own_law_5 md x1 y1 z1 r1 s11_0 h_s11_0 a h_a b h_b cz h_cz hc49 bl65 h_bl65 bl72 h_bl72 bl79 h_bl79 kk h_kk z94 h_z94 hc123 q h_q ss2 h_ss2 ss3 h_ss3 v207_26 h_v207_26 v207_27 h_v207_27)
          have hs3 : ss2.toInt ≤ ss3.toInt := (own_law_6 md x1 y1 z1 r1 s11_0 h_s11_0 a h_a b h_b cz h_cz hc49 bl65 h_bl65 bl72 h_bl72 bl79 h_bl79 kk h_kk z94 h_z94 hc123 q h_q ss2 h_ss2 ss3 h_ss3 v207_26 h_v207_26 v207_27 h_v207_27)
          have hq1 : 1 ≤ q.toInt := (own_law_7 md x1 y1 z1 r1 s11_0 h_s11_0 a h_a b h_b cz h_cz hc49 bl65 h_bl65 bl72 h_bl72 bl79 h_bl79 kk h_kk z94 h_z94 hc123 q h_q ss2 h_ss2 ss3 h_ss3 v207_26 h_v207_26 v207_27 h_v207_27)
          have v0 : gf42 0 = 1 := by rw [e45 0 (by decide), e35 0 (by decide), e24]; decide
          have v1 : gf42 1 = ss2 := by rw [e45 1 (by decide), e34]; exact (own_law_8 md x1 y1 z1 r1 s11_0 h_s11_0 a h_a b h_b cz h_cz hc49 bl65 h_bl65 bl72 h_bl72 bl79 h_bl79 kk h_kk z94 h_z94 hc123 q h_q ss2 h_ss2 ss3 h_ss3 v207_26 h_v207_26 v207_27 h_v207_27)
          have v2 : gf42 2 = ss3 := by rw [e44]; exact (own_law_9 md x1 y1 z1 r1 s11_0 h_s11_0 a h_a b h_b cz h_cz hc49 bl65 h_bl65 bl72 h_bl72 bl79 h_bl79 kk h_kk z94 h_z94 hc123 q h_q ss2 h_ss2 ss3 h_ss3 v207_26 h_v207_26 v207_27 h_v207_27)
          have val := own_srt gf42 0 ss2 ss3 hs2 hs3 (fun i hi => absurd hi (Nat.not_lt_zero i)) v0 v1 v2
          have hs0 : (gf42 0).toInt ≤ q.toInt := by rw [val 0 (by decide), if_pos (by decide)]; exact hq1
          have hsrt : ∀ i j, i ≤ j → j < 3 → (gf42 i).toInt ≤ (gf42 j).toInt := fun i j q1 q2 => by rw [val i (by omega), val j (by omega)]; (repeat' split) <;> omega
          refine wp_virtual ok (wd hw 33 rfl) (wd hw 34 rfl) (wd hw 36 rfl) (wd hw 35 rfl) (wd hw 3 rfl) (wd hw 37 rfl) (by decide) (argsL := [.long q]) (rest := []) B49.1 (c_loc _ Z a0 hw a4 q 16 3 bl79 gf42 h3.size h47 n0 Z50 B49 m20 g10 hs0 hsrt (by decide) (by decide) (by decide)) (ps := [.long]) (by decide +kernel) (by rfl) (by rfl) (by rfl) (by decide +kernel) (by decide) (Nat.le_of_ble_eq_true rfl) (by decide) (by decide) ?_
          intro r73 h74 q75
          obtain ⟨a61, rho62, gr63, rfl, z64, g65, e66, pp67, pp68, pp69, E70, F71, F72⟩ := q75
          have Z76 : n0 ≤ h74.size := Nat.le_trans Z50 z64
          have g77 : n0 ≤ a61 := Nat.le_trans Z50 g65
          have HR78 := own_loc gf42 0 rho62 ss2 ss3 q hs2 hs3 (fun i hi => absurd hi (Nat.not_lt_zero i)) v0 v1 v2 pp67 pp68 pp69 hq1
          rw [← e66] at HR78
          show WP X n0 QL h74 3 21 214 #[.val (.int md), .val (.long x1), .second, .val (.long y1), .second, .val (.long z1), .second, .val (.long r1), .second, .val (.int s11_0), .val (.long a), .second, .val (.long b), .second, .val (.long cz), .second, .val ((.ref a4)), .val (.int (0 : Int32)), .val (.long kk), .second, .val (.long q), .second, .val (.long ss2), .second, .val (.long ss3), .second, .val (.int v207_26), .val (.long v207_27), .second, .unset] [(.ref a61)]
          refine wp_run ok hK (B := [(214, .astore 29, false), (216, .aload 29, false)]) (by decide +kernel) (ps := []) (pc' := 218) (L' := #[.val (.int md), .val (.long x1), .second, .val (.long y1), .second, .val (.long z1), .second, .val (.long r1), .second, .val (.int s11_0), .val (.long a), .second, .val (.long b), .second, .val (.long cz), .second, .val ((.ref a4)), .val (.int (0 : Int32)), .val (.long kk), .second, .val (.long q), .second, .val (.long ss2), .second, .val (.long ss3), .second, .val (.int v207_26), .val (.long v207_27), .second, .val ((.ref a61))]) (S' := [(.ref a61)]) rfl trivial ?_
          refine wp_virtual ok (wd hw 58 rfl) (wd hw 59 rfl) (wd hw 61 rfl) (wd hw 60 rfl) (wd hw 44 rfl) (wd hw 62 rfl) (by decide) (argsL := []) (rest := []) E70 (c_gfi _ Z a0 hw a61 (Int32.ofNat (rho62 + 1)) h74 n0 Z76 E70 F71 g77) (ps := []) (by decide +kernel) (by rfl) (by rfl) (by rfl) (by decide +kernel) (by decide) (Nat.le_of_ble_eq_true rfl) (by decide) (by decide) ?_
          intro r79 h80 q81
          obtain ⟨e82, rfl⟩ := q81
          obtain ⟨z218, h_z218⟩ : ∃ z : Int32, z = (Int32.ofNat (rho62 + 1)) := ⟨_, rfl⟩
          have e82' := e82.trans (show _ = some (Value.int z218) by rw [h_z218])
          subst e82'
          show WP X n0 QL h74 3 21 221 #[.val (.int md), .val (.long x1), .second, .val (.long y1), .second, .val (.long z1), .second, .val (.long r1), .second, .val (.int s11_0), .val (.long a), .second, .val (.long b), .second, .val (.long cz), .second, .val ((.ref a4)), .val (.int (0 : Int32)), .val (.long kk), .second, .val (.long q), .second, .val (.long ss2), .second, .val (.long ss3), .second, .val (.int v207_26), .val (.long v207_27), .second, .val ((.ref a61))] [.int z218]
          refine wp_run ok hK (B := [(221, .iload 17, false), (223, .iload 26, false), (225, .iadd, false), (226, .if_icmp .ne 18, false), (229, .aload 29, false)]) (by decide +kernel) (ps := [Op.if_icmp.holds .ne z218 ((0 : Int32) + v207_26) = false]) (pc' := 231) (L' := #[.val (.int md), .val (.long x1), .second, .val (.long y1), .second, .val (.long z1), .second, .val (.long r1), .second, .val (.int s11_0), .val (.long a), .second, .val (.long b), .second, .val (.long cz), .second, .val ((.ref a4)), .val (.int (0 : Int32)), .val (.long kk), .second, .val (.long q), .second, .val (.long ss2), .second, .val (.long ss3), .second, .val (.int v207_26), .val (.long v207_27), .second, .val ((.ref a61))]) (S' := [(.ref a61)]) rfl ⟨(XT.ii_ne_f (own_law_10 md x1 y1 z1 r1 s11_0 h_s11_0 a h_a b h_b cz h_cz hc49 bl65 h_bl65 bl72 h_bl72 bl79 h_bl79 kk h_kk z94 h_z94 hc123 q h_q ss2 h_ss2 ss3 h_ss3 v207_26 h_v207_26 v207_27 h_v207_27 rho62 gr63 HR78 z218 h_z218)), trivial⟩ ?_
          refine wp_virtual ok (wd hw 63 rfl) (wd hw 64 rfl) (wd hw 66 rfl) (wd hw 65 rfl) (wd hw 44 rfl) (wd hw 67 rfl) (by decide) (argsL := []) (rest := []) E70 (c_gin _ Z a0 hw a61 (q - gr63) h74 n0 Z76 E70 F72 g77) (ps := []) (by decide +kernel) (by rfl) (by rfl) (by rfl) (by decide +kernel) (by decide) (Nat.le_of_ble_eq_true rfl) (by decide) (by decide) ?_
          intro r83 h84 q85
          obtain ⟨e86, rfl⟩ := q85
          obtain ⟨z231, h_z231⟩ : ∃ z : Int64, z = (q - gr63) := ⟨_, rfl⟩
          have e86' := e86.trans (show _ = some (Value.long z231) by rw [h_z231])
          subst e86'
          show WP X n0 QL h74 3 21 234 #[.val (.int md), .val (.long x1), .second, .val (.long y1), .second, .val (.long z1), .second, .val (.long r1), .second, .val (.int s11_0), .val (.long a), .second, .val (.long b), .second, .val (.long cz), .second, .val ((.ref a4)), .val (.int (0 : Int32)), .val (.long kk), .second, .val (.long q), .second, .val (.long ss2), .second, .val (.long ss3), .second, .val (.int v207_26), .val (.long v207_27), .second, .val ((.ref a61))] [.long z231]
          refine wp_run ok hK (B := [(234, .lload 27, false), (236, .lcmp, false), (237, .ifCond .ne 7, false), (240, .iconst 1, false), (241, .goto 4, false)]) (by decide +kernel) (ps := [Op.ifCond.holds .ne (cmpL z231 v207_27) = false]) (pc' := 245) (L' := #[.val (.int md), .val (.long x1), .second, .val (.long y1), .second, .val (.long z1), .second, .val (.long r1), .second, .val (.int s11_0), .val (.long a), .second, .val (.long b), .second, .val (.long cz), .second, .val ((.ref a4)), .val (.int (0 : Int32)), .val (.long kk), .second, .val (.long q), .second, .val (.long ss2), .second, .val (.long ss3), .second, .val (.int v207_26), .val (.long v207_27), .second, .val ((.ref a61))]) (S' := [.int (1 : Int32)]) rfl ⟨(XT.ll_ne_f (own_law_11 md x1 y1 z1 r1 s11_0 h_s11_0 a h_a b h_b cz h_cz hc49 bl65 h_bl65 bl72 h_bl72 bl79 h_bl79 kk h_kk z94 h_z94 hc123 q h_q ss2 h_ss2 ss3 h_ss3 v207_26 h_v207_26 v207_27 h_v207_27 rho62 gr63 HR78 z218 h_z218 z231 h_z231)), trivial⟩ ?_
          refine wp_retZ ok (t := .boolean) (by simp) (by decide +kernel) (by decide) (by decide) ?_
          exact congrArg (fun z => some (Value.int z)) (own_law_12 md x1 y1 z1 r1 s11_0 h_s11_0 a h_a b h_b cz h_cz hc49 bl65 h_bl65 bl72 h_bl72 bl79 h_bl79 kk h_kk z94 h_z94 hc123 q h_q ss2 h_ss2 ss3 h_ss3 v207_26 h_v207_26 v207_27 h_v207_27 rho62 gr63 HR78 z218 h_z218 z231 h_z231)
        by_cases c58 : q < ss3
        · by_cases c59 : q < ss2
          · refine wp_run ok hK (B := [(161, .ifCond .lt 16, true), (177, .lload 20, false), (179, .lload 22, false), (181, .lcmp, false), (182, .ifCond .lt 16, true), (198, .iconst 1, false), (199, .istore 26, false), (201, .lload 20, false), (203, .lconst 1, false), (204, .lsub, false), (205, .lstore 27, false)]) (by decide +kernel) (ps := [Op.ifCond.holds .lt (cmpL q ss3) = true, Op.ifCond.holds .lt (cmpL q ss2) = true]) (pc' := 207) (L' := #[.val (.int md), .val (.long x1), .second, .val (.long y1), .second, .val (.long z1), .second, .val (.long r1), .second, .val (.int s11_0), .val (.long a), .second, .val (.long b), .second, .val (.long cz), .second, .val ((.ref a4)), .val (.int (0 : Int32)), .val (.long kk), .second, .val (.long q), .second, .val (.long ss2), .second, .val (.long ss3), .second, .val (.int (1 : Int32)), .val (.long (q - (1 : Int64))), .second, .unset]) (S' := []) rfl ⟨(XT.ll_lt_t c58), (XT.ll_lt_t c59), trivial⟩ ?_
            exact J207_60 _ _ (by rw [if_pos c58, if_pos c59]) (by rw [if_pos c58, if_pos c59])
          · refine wp_run ok hK (B := [(161, .ifCond .lt 16, true), (177, .lload 20, false), (179, .lload 22, false), (181, .lcmp, false), (182, .ifCond .lt 16, false), (185, .iconst 2, false), (186, .istore 26, false), (188, .lload 20, false), (190, .lload 22, false), (192, .lsub, false), (193, .lstore 27, false)]) (by decide +kernel) (ps := [Op.ifCond.holds .lt (cmpL q ss3) = true, Op.ifCond.holds .lt (cmpL q ss2) = false]) (pc' := 195) (L' := #[.val (.int md), .val (.long x1), .second, .val (.long y1), .second, .val (.long z1), .second, .val (.long r1), .second, .val (.int s11_0), .val (.long a), .second, .val (.long b), .second, .val (.long cz), .second, .val ((.ref a4)), .val (.int (0 : Int32)), .val (.long kk), .second, .val (.long q), .second, .val (.long ss2), .second, .val (.long ss3), .second, .val (.int (2 : Int32)), .val (.long (q - ss2)), .second, .unset]) (S' := []) rfl ⟨(XT.ll_lt_t c58), (XT.ll_lt_f c59), trivial⟩ ?_
            refine wp_run ok hK (B := [(195, .goto 12, false)]) (by decide +kernel) (ps := []) (pc' := 207) (L' := #[.val (.int md), .val (.long x1), .second, .val (.long y1), .second, .val (.long z1), .second, .val (.long r1), .second, .val (.int s11_0), .val (.long a), .second, .val (.long b), .second, .val (.long cz), .second, .val ((.ref a4)), .val (.int (0 : Int32)), .val (.long kk), .second, .val (.long q), .second, .val (.long ss2), .second, .val (.long ss3), .second, .val (.int (2 : Int32)), .val (.long (q - ss2)), .second, .unset]) (S' := []) rfl trivial ?_
            exact J207_60 _ _ (by rw [if_pos c58, if_neg c59]) (by rw [if_pos c58, if_neg c59])
        · refine wp_run ok hK (B := [(161, .ifCond .lt 16, false), (164, .iconst 3, false), (165, .istore 26, false), (167, .lload 20, false), (169, .lload 24, false), (171, .lsub, false), (172, .lstore 27, false)]) (by decide +kernel) (ps := [Op.ifCond.holds .lt (cmpL q ss3) = false]) (pc' := 174) (L' := #[.val (.int md), .val (.long x1), .second, .val (.long y1), .second, .val (.long z1), .second, .val (.long r1), .second, .val (.int s11_0), .val (.long a), .second, .val (.long b), .second, .val (.long cz), .second, .val ((.ref a4)), .val (.int (0 : Int32)), .val (.long kk), .second, .val (.long q), .second, .val (.long ss2), .second, .val (.long ss3), .second, .val (.int (3 : Int32)), .val (.long (q - ss3)), .second, .unset]) (S' := []) rfl ⟨(XT.ll_lt_f c58), trivial⟩ ?_
          refine wp_run ok hK (B := [(174, .goto 33, false)]) (by decide +kernel) (ps := []) (pc' := 207) (L' := #[.val (.int md), .val (.long x1), .second, .val (.long y1), .second, .val (.long z1), .second, .val (.long r1), .second, .val (.int s11_0), .val (.long a), .second, .val (.long b), .second, .val (.long cz), .second, .val ((.ref a4)), .val (.int (0 : Int32)), .val (.long kk), .second, .val (.long q), .second, .val (.long ss2), .second, .val (.long ss3), .second, .val (.int (3 : Int32)), .val (.long (q - ss3)), .second, .unset]) (S' := []) rfl trivial ?_
          exact J207_60 _ _ (by rw [if_neg c58]) (by rw [if_neg c58])
    · refine wp_run ok hK (B := [(49, .ifCond .eq 12, false)]) (by decide +kernel) (ps := [Op.ifCond.holds .eq s11_0 = false]) (pc' := 52) (L' := #[.val (.int md), .val (.long x1), .second, .val (.long y1), .second, .val (.long z1), .second, .val (.long r1), .second, .val (.int s11_0), .val (.long a), .second, .val (.long b), .second, .val (.long cz), .second, .val ((.ref a4)), .val (.int (0 : Int32)), .unset, .unset, .unset, .unset, .unset, .unset, .unset, .unset, .unset, .unset, .unset, .unset]) (S' := []) rfl ⟨(XT.i0_eq_f hc49), trivial⟩ ?_
      refine wp_run ok hK (B := [(52, .aload 16, false)]) (by decide +kernel) (ps := []) (pc' := 54) (L' := #[.val (.int md), .val (.long x1), .second, .val (.long y1), .second, .val (.long z1), .second, .val (.long r1), .second, .val (.int s11_0), .val (.long a), .second, .val (.long b), .second, .val (.long cz), .second, .val ((.ref a4)), .val (.int (0 : Int32)), .unset, .unset, .unset, .unset, .unset, .unset, .unset, .unset, .unset, .unset, .unset, .unset]) (S' := [(.ref a4)]) rfl trivial ?_
      refine wp_static ok (wd hw 68 rfl) (wd hw 69 rfl) (wd hw 70 rfl) (wd hw 71 rfl) (by decide) (argsL := [(.ref a4)]) (rest := []) (c_emp _ Z a0 hw a4 (fun _ => 0) h3.size h17 n0 Z19 B15 m20 g10) (ps := [(.object "com/example/attestore/attestore/server/BlockIndex")]) (by decide +kernel) (by rfl) (by rfl) (by rfl) (by decide +kernel) (by decide) (Nat.le_of_ble_eq_true rfl) (by decide) (by decide) ?_
      intro r90 h91 q92
      obtain ⟨rfl, z87, gf88, B89, vl14⟩ := q92
      have Z93 : n0 ≤ h91.size := Nat.le_trans Z19 z87
      show WP X n0 QL h91 2 19 57 #[.val (.int md), .val (.long x1), .second, .val (.long y1), .second, .val (.long z1), .second, .val (.long r1), .second, .val (.int s11_0), .val (.long a), .second, .val (.long b), .second, .val (.long cz), .second, .val ((.ref a4)), .val (.int (0 : Int32)), .unset, .unset, .unset, .unset, .unset, .unset, .unset, .unset, .unset, .unset, .unset, .unset] []
      refine wp_run ok hK (B := [(57, .bipush 14, false), (59, .istore 17, false), (61, .aload 16, false), (63, .lload 10, false)]) (by decide +kernel) (ps := []) (pc' := 65) (L' := #[.val (.int md), .val (.long x1), .second, .val (.long y1), .second, .val (.long z1), .second, .val (.long r1), .second, .val (.int s11_0), .val (.long a), .second, .val (.long b), .second, .val (.long cz), .second, .val ((.ref a4)), .val (.int (14 : Int32)), .unset, .unset, .unset, .unset, .unset, .unset, .unset, .unset, .unset, .unset, .unset, .unset]) (S' := [.long a, (.ref a4)]) rfl trivial ?_
      refine wp_virtual ok (wd hw 13 rfl) (wd hw 14 rfl) (wd hw 16 rfl) (wd hw 15 rfl) (wd hw 3 rfl) (wd hw 17 rfl) (by decide) (argsL := [.long a]) (rest := []) B89.1 (c_ad1 _ Z a0 hw a4 a 16 14 (0 : Int64) gf88 h3.size h91 n0 Z93 B89 m20 g10 (by decide) (by decide)) (ps := [.long]) (by decide +kernel) (by rfl) (by rfl) (by rfl) (by decide +kernel) (by decide) (Nat.le_of_ble_eq_true rfl) (by decide) (by decide) ?_
      intro r99 h100 q101
      obtain ⟨rfl, z94, gf95, B96, e97, e98⟩ := q101
      obtain ⟨bl65, h_bl65⟩ : ∃ z : Int64, z = ((0 : Int64) + a) := ⟨_, rfl⟩
      rw [← h_bl65] at B96
      have B102 : BX Z h100 a4 16 15 bl65 gf95 h3.size := B96
      have Z103 : n0 ≤ h100.size := Nat.le_trans Z93 z94
      show WP X n0 QL h100 2 19 68 #[.val (.int md), .val (.long x1), .second, .val (.long y1), .second, .val (.long z1), .second, .val (.long r1), .second, .val (.int s11_0), .val (.long a), .second, .val (.long b), .second, .val (.long cz), .second, .val ((.ref a4)), .val (.int (14 : Int32)), .unset, .unset, .unset, .unset, .unset, .unset, .unset, .unset, .unset, .unset, .unset, .unset] []
      refine wp_run ok hK (B := [(68, .aload 16, false), (70, .lload 12, false)]) (by decide +kernel) (ps := []) (pc' := 72) (L' := #[.val (.int md), .val (.long x1), .second, .val (.long y1), .second, .val (.long z1), .second, .val (.long r1), .second, .val (.int s11_0), .val (.long a), .second, .val (.long b), .second, .val (.long cz), .second, .val ((.ref a4)), .val (.int (14 : Int32)), .unset, .unset, .unset, .unset, .unset, .unset, .unset, .unset, .unset, .unset, .unset, .unset]) (S' := [.long b, (.ref a4)]) rfl trivial ?_
      refine wp_virtual ok (wd hw 13 rfl) (wd hw 14 rfl) (wd hw 16 rfl) (wd hw 15 rfl) (wd hw 3 rfl) (wd hw 17 rfl) (by decide) (argsL := [.long b]) (rest := []) B102.1 (c_ad1 _ Z a0 hw a4 b 16 15 bl65 gf95 h3.size h100 n0 Z103 B102 m20 g10 (by decide) (by decide)) (ps := [.long]) (by decide +kernel) (by rfl) (by rfl) (by rfl) (by decide +kernel) (by decide) (Nat.le_of_ble_eq_true rfl) (by decide) (by decide) ?_
      intro r109 h110 q111
      obtain ⟨rfl, z104, gf105, B106, e107, e108⟩ := q111
      obtain ⟨bl72, h_bl72⟩ : ∃ z : Int64, z = (bl65 + b) := ⟨_, rfl⟩
      rw [← h_bl72] at B106
      have B112 : BX Z h110 a4 16 16 bl72 gf105 h3.size := B106
      have Z113 : n0 ≤ h110.size := Nat.le_trans Z103 z104
      show WP X n0 QL h110 2 19 75 #[.val (.int md), .val (.long x1), .second, .val (.long y1), .second, .val (.long z1), .second, .val (.long r1), .second, .val (.int s11_0), .val (.long a), .second, .val (.long b), .second, .val (.long cz), .second, .val ((.ref a4)), .val (.int (14 : Int32)), .unset, .unset, .unset, .unset, .unset, .unset, .unset, .unset, .unset, .unset, .unset, .unset] []
      refine wp_run ok hK (B := [(75, .aload 16, false), (77, .lload 14, false)]) (by decide +kernel) (ps := []) (pc' := 79) (L' := #[.val (.int md), .val (.long x1), .second, .val (.long y1), .second, .val (.long z1), .second, .val (.long r1), .second, .val (.int s11_0), .val (.long a), .second, .val (.long b), .second, .val (.long cz), .second, .val ((.ref a4)), .val (.int (14 : Int32)), .unset, .unset, .unset, .unset, .unset, .unset, .unset, .unset, .unset, .unset, .unset, .unset]) (S' := [.long cz, (.ref a4)]) rfl trivial ?_
      refine wp_virtual ok (wd hw 13 rfl) (wd hw 14 rfl) (wd hw 16 rfl) (wd hw 15 rfl) (wd hw 3 rfl) (wd hw 17 rfl) (by decide) (argsL := [.long cz]) (rest := []) B112.1 (c_ad2 _ Z a0 hw a4 cz bl72 gf105 h3.size h110 n0 Z113 B112 m20 g10 (Nat.le_trans (Nat.le_trans (Nat.le_trans z14 z87) z94) z104)) (ps := [.long]) (by decide +kernel) (by rfl) (by rfl) (by rfl) (by decide +kernel) (by decide) (Nat.le_of_ble_eq_true rfl) (by decide) (by decide) ?_
      intro r119 h120 q121
      obtain ⟨rfl, z114, gf115, B116, e117, e118⟩ := q121
      obtain ⟨bl79, h_bl79⟩ : ∃ z : Int64, z = (bl72 + cz) := ⟨_, rfl⟩
      rw [← h_bl79] at B116
      have B122 : BX Z h120 a4 32 17 bl79 gf115 h3.size := B116
      have Z123 : n0 ≤ h120.size := Nat.le_trans Z113 z114
      show WP X n0 QL h120 3 51 82 #[.val (.int md), .val (.long x1), .second, .val (.long y1), .second, .val (.long z1), .second, .val (.long r1), .second, .val (.int s11_0), .val (.long a), .second, .val (.long b), .second, .val (.long cz), .second, .val ((.ref a4)), .val (.int (14 : Int32)), .unset, .unset, .unset, .unset, .unset, .unset, .unset, .unset, .unset, .unset, .unset, .unset] []
      refine wp_run ok hK (B := [(82, .lload 10, false), (84, .lload 12, false), (86, .ladd, false), (87, .lload 14, false), (89, .ladd, false), (90, .lstore 18, false)]) (by decide +kernel) (ps := []) (pc' := 92) (L' := #[.val (.int md), .val (.long x1), .second, .val (.long y1), .second, .val (.long z1), .second, .val (.long r1), .second, .val (.int s11_0), .val (.long a), .second, .val (.long b), .second, .val (.long cz), .second, .val ((.ref a4)), .val (.int (14 : Int32)), .val (.long ((a + b) + cz)), .second, .unset, .unset, .unset, .unset, .unset, .unset, .unset, .unset, .unset, .unset]) (S' := []) rfl trivial ?_
      obtain ⟨kk, h_kk⟩ : ∃ z : Int64, z = ((a + b) + cz) := ⟨_, rfl⟩
      rw [← h_kk]
      refine wp_run ok hK (B := [(92, .aload 16, false)]) (by decide +kernel) (ps := []) (pc' := 94) (L' := #[.val (.int md), .val (.long x1), .second, .val (.long y1), .second, .val (.long z1), .second, .val (.long r1), .second, .val (.int s11_0), .val (.long a), .second, .val (.long b), .second, .val (.long cz), .second, .val ((.ref a4)), .val (.int (14 : Int32)), .val (.long kk), .second, .unset, .unset, .unset, .unset, .unset, .unset, .unset, .unset, .unset, .unset]) (S' := [(.ref a4)]) rfl trivial ?_
      refine wp_virtual ok (wd hw 22 rfl) (wd hw 23 rfl) (wd hw 25 rfl) (wd hw 24 rfl) (wd hw 3 rfl) (wd hw 26 rfl) (by decide) (argsL := []) (rest := []) B122.1 (c_fil _ Z a0 hw a4 32 17 bl79 gf115 h3.size h120 n0 Z123 B122 m20 g10) (ps := []) (by decide +kernel) (by rfl) (by rfl) (by rfl) (by decide +kernel) (by decide) (Nat.le_of_ble_eq_true rfl) (by decide) (by decide) ?_
      intro r124 h125 q126
      obtain ⟨e127, rfl⟩ := q126
      obtain ⟨z94, h_z94⟩ : ∃ z : Int32, z = (Int32.ofNat 17) := ⟨_, rfl⟩
      have e127' := e127.trans (show _ = some (Value.int z94) by rw [h_z94])
      subst e127'
      show WP X n0 QL h120 3 51 97 #[.val (.int md), .val (.long x1), .second, .val (.long y1), .second, .val (.long z1), .second, .val (.long r1), .second, .val (.int s11_0), .val (.long a), .second, .val (.long b), .second, .val (.long cz), .second, .val ((.ref a4)), .val (.int (14 : Int32)), .val (.long kk), .second, .unset, .unset, .unset, .unset, .unset, .unset, .unset, .unset, .unset, .unset] [.int z94]
      refine wp_run ok hK (B := [(97, .iload 17, false), (99, .iconst 3, false), (100, .iadd, false), (101, .if_icmp .eq 5, true), (106, .aload 16, false)]) (by decide +kernel) (ps := [Op.if_icmp.holds .eq z94 (17 : Int32) = true]) (pc' := 108) (L' := #[.val (.int md), .val (.long x1), .second, .val (.long y1), .second, .val (.long z1), .second, .val (.long r1), .second, .val (.int s11_0), .val (.long a), .second, .val (.long b), .second, .val (.long cz), .second, .val ((.ref a4)), .val (.int (14 : Int32)), .val (.long kk), .second, .unset, .unset, .unset, .unset, .unset, .unset, .unset, .unset, .unset, .unset]) (S' := [(.ref a4)]) rfl ⟨(XT.ii_eq_t (own_law_13 md x1 y1 z1 r1 s11_0 h_s11_0 a h_a b h_b cz h_cz hc49 bl65 h_bl65 bl72 h_bl72 bl79 h_bl79 kk h_kk z94 h_z94)), trivial⟩ ?_
      refine wp_virtual ok (wd hw 27 rfl) (wd hw 28 rfl) (wd hw 30 rfl) (wd hw 29 rfl) (wd hw 3 rfl) (wd hw 31 rfl) (by decide) (argsL := []) (rest := []) B122.1 (c_blo _ Z a0 hw a4 32 17 bl79 gf115 h3.size h120 n0 Z123 B122 m20 g10) (ps := []) (by decide +kernel) (by rfl) (by rfl) (by rfl) (by decide +kernel) (by decide) (Nat.le_of_ble_eq_true rfl) (by decide) (by decide) ?_
      intro r128 h129 q130
      obtain ⟨rfl, rfl⟩ := q130
      show WP X n0 QL h120 3 51 111 #[.val (.int md), .val (.long x1), .second, .val (.long y1), .second, .val (.long z1), .second, .val (.long r1), .second, .val (.int s11_0), .val (.long a), .second, .val (.long b), .second, .val (.long cz), .second, .val ((.ref a4)), .val (.int (14 : Int32)), .val (.long kk), .second, .unset, .unset, .unset, .unset, .unset, .unset, .unset, .unset, .unset, .unset] [.long bl79]
      refine wp_run ok hK (B := [(111, .lload 18, false), (113, .lcmp, false), (114, .ifCond .eq 5, true), (119, .lload 18, false), (121, .lconst 0, false), (122, .lcmp, false)]) (by decide +kernel) (ps := [Op.ifCond.holds .eq (cmpL bl79 kk) = true]) (pc' := 123) (L' := #[.val (.int md), .val (.long x1), .second, .val (.long y1), .second, .val (.long z1), .second, .val (.long r1), .second, .val (.int s11_0), .val (.long a), .second, .val (.long b), .second, .val (.long cz), .second, .val ((.ref a4)), .val (.int (14 : Int32)), .val (.long kk), .second, .unset, .unset, .unset, .unset, .unset, .unset, .unset, .unset, .unset, .unset]) (S' := [.int (cmpL kk (0 : Int64))]) rfl ⟨(XT.ll_eq_t (own_law_14 md x1 y1 z1 r1 s11_0 h_s11_0 a h_a b h_b cz h_cz hc49 bl65 h_bl65 bl72 h_bl72 bl79 h_bl79 kk h_kk z94 h_z94)), trivial⟩ ?_
      by_cases hc123 : kk = (0 : Int64)
      · refine wp_run ok hK (B := [(123, .ifCond .ne 5, false)]) (by decide +kernel) (ps := [Op.ifCond.holds .ne (cmpL kk (0 : Int64)) = false]) (pc' := 126) (L' := #[.val (.int md), .val (.long x1), .second, .val (.long y1), .second, .val (.long z1), .second, .val (.long r1), .second, .val (.int s11_0), .val (.long a), .second, .val (.long b), .second, .val (.long cz), .second, .val ((.ref a4)), .val (.int (14 : Int32)), .val (.long kk), .second, .unset, .unset, .unset, .unset, .unset, .unset, .unset, .unset, .unset, .unset]) (S' := []) rfl ⟨(XT.ll_ne_f hc123), trivial⟩ ?_
        refine wp_run ok hK (B := [(126, .iconst 1, false)]) (by decide +kernel) (ps := []) (pc' := 127) (L' := #[.val (.int md), .val (.long x1), .second, .val (.long y1), .second, .val (.long z1), .second, .val (.long r1), .second, .val (.int s11_0), .val (.long a), .second, .val (.long b), .second, .val (.long cz), .second, .val ((.ref a4)), .val (.int (14 : Int32)), .val (.long kk), .second, .unset, .unset, .unset, .unset, .unset, .unset, .unset, .unset, .unset, .unset]) (S' := [.int (1 : Int32)]) rfl trivial ?_
        refine wp_retZ ok (t := .boolean) (by simp) (by decide +kernel) (by decide) (by decide) ?_
        exact congrArg (fun z => some (Value.int z)) (own_law_15 md x1 y1 z1 r1 s11_0 h_s11_0 a h_a b h_b cz h_cz hc49 bl65 h_bl65 bl72 h_bl72 bl79 h_bl79 kk h_kk z94 h_z94 hc123)
      · refine wp_run ok hK (B := [(123, .ifCond .ne 5, true)]) (by decide +kernel) (ps := [Op.ifCond.holds .ne (cmpL kk (0 : Int64)) = true]) (pc' := 128) (L' := #[.val (.int md), .val (.long x1), .second, .val (.long y1), .second, .val (.long z1), .second, .val (.long r1), .second, .val (.int s11_0), .val (.long a), .second, .val (.long b), .second, .val (.long cz), .second, .val ((.ref a4)), .val (.int (14 : Int32)), .val (.long kk), .second, .unset, .unset, .unset, .unset, .unset, .unset, .unset, .unset, .unset, .unset]) (S' := []) rfl ⟨(XT.ll_ne_t hc123), trivial⟩ ?_
        refine wp_run ok hK (B := [(128, .lconst 1, false), (129, .lload 7, false), (131, .ldc2_w 32, false), (134, .land, false), (135, .lload 18, false), (137, .lrem, false), (138, .ladd, false), (139, .lstore 20, false)]) (by decide +kernel) (ps := [kk ≠ 0]) (pc' := 141) (L' := #[.val (.int md), .val (.long x1), .second, .val (.long y1), .second, .val (.long z1), .second, .val (.long r1), .second, .val (.int s11_0), .val (.long a), .second, .val (.long b), .second, .val (.long cz), .second, .val ((.ref a4)), .val (.int (14 : Int32)), .val (.long kk), .second, .val (.long ((1 : Int64) + ((r1 &&& (9223372036854775807 : Int64)) % kk))), .second, .unset, .unset, .unset, .unset, .unset, .unset, .unset, .unset]) (S' := []) rfl ⟨(own_law_16 md x1 y1 z1 r1 s11_0 h_s11_0 a h_a b h_b cz h_cz hc49 bl65 h_bl65 bl72 h_bl72 bl79 h_bl79 kk h_kk z94 h_z94 hc123), trivial⟩ ?_
        obtain ⟨q, h_q⟩ : ∃ z : Int64, z = ((1 : Int64) + ((r1 &&& (9223372036854775807 : Int64)) % kk)) := ⟨_, rfl⟩
        rw [← h_q]
        refine wp_run ok hK (B := [(141, .lconst 1, false), (142, .lload 10, false), (144, .ladd, false), (145, .lstore 22, false)]) (by decide +kernel) (ps := []) (pc' := 147) (L' := #[.val (.int md), .val (.long x1), .second, .val (.long y1), .second, .val (.long z1), .second, .val (.long r1), .second, .val (.int s11_0), .val (.long a), .second, .val (.long b), .second, .val (.long cz), .second, .val ((.ref a4)), .val (.int (14 : Int32)), .val (.long kk), .second, .val (.long q), .second, .val (.long ((1 : Int64) + a)), .second, .unset, .unset, .unset, .unset, .unset, .unset]) (S' := []) rfl trivial ?_
        obtain ⟨ss2, h_ss2⟩ : ∃ z : Int64, z = ((1 : Int64) + a) := ⟨_, rfl⟩
        rw [← h_ss2]
        refine wp_run ok hK (B := [(147, .lconst 1, false), (148, .lload 10, false), (150, .ladd, false), (151, .lload 12, false), (153, .ladd, false), (154, .lstore 24, false)]) (by decide +kernel) (ps := []) (pc' := 156) (L' := #[.val (.int md), .val (.long x1), .second, .val (.long y1), .second, .val (.long z1), .second, .val (.long r1), .second, .val (.int s11_0), .val (.long a), .second, .val (.long b), .second, .val (.long cz), .second, .val ((.ref a4)), .val (.int (14 : Int32)), .val (.long kk), .second, .val (.long q), .second, .val (.long ss2), .second, .val (.long (((1 : Int64) + a) + b)), .second, .unset, .unset, .unset, .unset]) (S' := []) rfl trivial ?_
        obtain ⟨ss3, h_ss3⟩ : ∃ z : Int64, z = (((1 : Int64) + a) + b) := ⟨_, rfl⟩
        rw [← h_ss3]
        refine wp_run ok hK (B := [(156, .lload 20, false), (158, .lload 24, false), (160, .lcmp, false)]) (by decide +kernel) (ps := []) (pc' := 161) (L' := #[.val (.int md), .val (.long x1), .second, .val (.long y1), .second, .val (.long z1), .second, .val (.long r1), .second, .val (.int s11_0), .val (.long a), .second, .val (.long b), .second, .val (.long cz), .second, .val ((.ref a4)), .val (.int (14 : Int32)), .val (.long kk), .second, .val (.long q), .second, .val (.long ss2), .second, .val (.long ss3), .second, .unset, .unset, .unset, .unset]) (S' := [.int (cmpL q ss3)]) rfl trivial ?_
        have J207_133 : ∀ (v207_26 : Int32) (v207_27 : Int64) (h_v207_26 : v207_26 = (if q < ss3 then (if q < ss2 then (1 : Int32) else (2 : Int32)) else (3 : Int32))) (h_v207_27 : v207_27 = (if q < ss3 then (if q < ss2 then (q - (1 : Int64)) else (q - ss2)) else (q - ss3))), WP X n0 QL h120 3 51 207 #[.val (.int md), .val (.long x1), .second, .val (.long y1), .second, .val (.long z1), .second, .val (.long r1), .second, .val (.int s11_0), .val (.long a), .second, .val (.long b), .second, .val (.long cz), .second, .val ((.ref a4)), .val (.int (14 : Int32)), .val (.long kk), .second, .val (.long q), .second, .val (.long ss2), .second, .val (.long ss3), .second, .val (.int v207_26), .val (.long v207_27), .second, .unset] [] := by
          intro v207_26 v207_27 h_v207_26 h_v207_27
          refine wp_run ok hK (B := [(207, .aload 16, false), (209, .lload 20, false)]) (by decide +kernel) (ps := []) (pc' := 211) (L' := #[.val (.int md), .val (.long x1), .second, .val (.long y1), .second, .val (.long z1), .second, .val (.long r1), .second, .val (.int s11_0), .val (.long a), .second, .val (.long b), .second, .val (.long cz), .second, .val ((.ref a4)), .val (.int (14 : Int32)), .val (.long kk), .second, .val (.long q), .second, .val (.long ss2), .second, .val (.long ss3), .second, .val (.int v207_26), .val (.long v207_27), .second, .unset]) (S' := [.long q, (.ref a4)]) rfl trivial ?_
          have hs2 : 1 ≤ ss2.toInt := (own_law_17 md x1 y1 z1 r1 s11_0 h_s11_0 a h_a b h_b cz h_cz hc49 bl65 h_bl65 bl72 h_bl72 bl79 h_bl79 kk h_kk z94 h_z94 hc123 q h_q ss2 h_ss2 ss3 h_ss3 v207_26 h_v207_26 v207_27 h_v207_27)
          have hs3 : ss2.toInt ≤ ss3.toInt := (own_law_18 md x1 y1 z1 r1 s11_0 h_s11_0 a h_a b h_b cz h_cz hc49 bl65 h_bl65 bl72 h_bl72 bl79 h_bl79 kk h_kk z94 h_z94 hc123 q h_q ss2 h_ss2 ss3 h_ss3 v207_26 h_v207_26 v207_27 h_v207_27)
          have hq1 : 1 ≤ q.toInt := (own_law_19 md x1 y1 z1 r1 s11_0 h_s11_0 a h_a b h_b cz h_cz hc49 bl65 h_bl65 bl72 h_bl72 bl79 h_bl79 kk h_kk z94 h_z94 hc123 q h_q ss2 h_ss2 ss3 h_ss3 v207_26 h_v207_26 v207_27 h_v207_27)
          have v0 : gf115 14 = 1 := by rw [e118 14 (by decide), e108 14 (by decide), e97]; decide
          have v1 : gf115 15 = ss2 := by rw [e118 15 (by decide), e107]; exact (own_law_20 md x1 y1 z1 r1 s11_0 h_s11_0 a h_a b h_b cz h_cz hc49 bl65 h_bl65 bl72 h_bl72 bl79 h_bl79 kk h_kk z94 h_z94 hc123 q h_q ss2 h_ss2 ss3 h_ss3 v207_26 h_v207_26 v207_27 h_v207_27)
          have v2 : gf115 16 = ss3 := by rw [e117]; exact (own_law_21 md x1 y1 z1 r1 s11_0 h_s11_0 a h_a b h_b cz h_cz hc49 bl65 h_bl65 bl72 h_bl72 bl79 h_bl79 kk h_kk z94 h_z94 hc123 q h_q ss2 h_ss2 ss3 h_ss3 v207_26 h_v207_26 v207_27 h_v207_27)
          have vl : ∀ i, i < 14 → gf115 i = 1 := fun i hi => by rw [e118 i (by omega), e108 i (by omega), e98 i hi]; exact vl14 i hi
          have val := own_srt gf115 14 ss2 ss3 hs2 hs3 vl v0 v1 v2
          have hs0 : (gf115 0).toInt ≤ q.toInt := by rw [val 0 (by decide), if_pos (by decide)]; exact hq1
          have hsrt : ∀ i j, i ≤ j → j < 17 → (gf115 i).toInt ≤ (gf115 j).toInt := fun i j q1 q2 => by rw [val i (by omega), val j (by omega)]; (repeat' split) <;> omega
          refine wp_virtual ok (wd hw 33 rfl) (wd hw 34 rfl) (wd hw 36 rfl) (wd hw 35 rfl) (wd hw 3 rfl) (wd hw 37 rfl) (by decide) (argsL := [.long q]) (rest := []) B122.1 (c_loc _ Z a0 hw a4 q 32 17 bl79 gf115 h3.size h120 n0 Z123 B122 m20 g10 hs0 hsrt (by decide) (by decide) (by decide)) (ps := [.long]) (by decide +kernel) (by rfl) (by rfl) (by rfl) (by decide +kernel) (by decide) (Nat.le_of_ble_eq_true rfl) (by decide) (by decide) ?_
          intro r146 h147 q148
          obtain ⟨a134, rho135, gr136, rfl, z137, g138, e139, pp140, pp141, pp142, E143, F144, F145⟩ := q148
          have Z149 : n0 ≤ h147.size := Nat.le_trans Z123 z137
          have g150 : n0 ≤ a134 := Nat.le_trans Z123 g138
          have HR151 := own_loc gf115 14 rho135 ss2 ss3 q hs2 hs3 vl v0 v1 v2 pp140 pp141 pp142 hq1
          rw [← e139] at HR151
          show WP X n0 QL h147 4 53 214 #[.val (.int md), .val (.long x1), .second, .val (.long y1), .second, .val (.long z1), .second, .val (.long r1), .second, .val (.int s11_0), .val (.long a), .second, .val (.long b), .second, .val (.long cz), .second, .val ((.ref a4)), .val (.int (14 : Int32)), .val (.long kk), .second, .val (.long q), .second, .val (.long ss2), .second, .val (.long ss3), .second, .val (.int v207_26), .val (.long v207_27), .second, .unset] [(.ref a134)]
          refine wp_run ok hK (B := [(214, .astore 29, false), (216, .aload 29, false)]) (by decide +kernel) (ps := []) (pc' := 218) (L' := #[.val (.int md), .val (.long x1), .second, .val (.long y1), .second, .val (.long z1), .second, .val (.long r1), .second, .val (.int s11_0), .val (.long a), .second, .val (.long b), .second, .val (.long cz), .second, .val ((.ref a4)), .val (.int (14 : Int32)), .val (.long kk), .second, .val (.long q), .second, .val (.long ss2), .second, .val (.long ss3), .second, .val (.int v207_26), .val (.long v207_27), .second, .val ((.ref a134))]) (S' := [(.ref a134)]) rfl trivial ?_
          refine wp_virtual ok (wd hw 58 rfl) (wd hw 59 rfl) (wd hw 61 rfl) (wd hw 60 rfl) (wd hw 44 rfl) (wd hw 62 rfl) (by decide) (argsL := []) (rest := []) E143 (c_gfi _ Z a0 hw a134 (Int32.ofNat (rho135 + 1)) h147 n0 Z149 E143 F144 g150) (ps := []) (by decide +kernel) (by rfl) (by rfl) (by rfl) (by decide +kernel) (by decide) (Nat.le_of_ble_eq_true rfl) (by decide) (by decide) ?_
          intro r152 h153 q154
          obtain ⟨e155, rfl⟩ := q154
          obtain ⟨z218, h_z218⟩ : ∃ z : Int32, z = (Int32.ofNat (rho135 + 1)) := ⟨_, rfl⟩
          have e155' := e155.trans (show _ = some (Value.int z218) by rw [h_z218])
          subst e155'
          show WP X n0 QL h147 4 53 221 #[.val (.int md), .val (.long x1), .second, .val (.long y1), .second, .val (.long z1), .second, .val (.long r1), .second, .val (.int s11_0), .val (.long a), .second, .val (.long b), .second, .val (.long cz), .second, .val ((.ref a4)), .val (.int (14 : Int32)), .val (.long kk), .second, .val (.long q), .second, .val (.long ss2), .second, .val (.long ss3), .second, .val (.int v207_26), .val (.long v207_27), .second, .val ((.ref a134))] [.int z218]
          refine wp_run ok hK (B := [(221, .iload 17, false), (223, .iload 26, false), (225, .iadd, false), (226, .if_icmp .ne 18, false), (229, .aload 29, false)]) (by decide +kernel) (ps := [Op.if_icmp.holds .ne z218 ((14 : Int32) + v207_26) = false]) (pc' := 231) (L' := #[.val (.int md), .val (.long x1), .second, .val (.long y1), .second, .val (.long z1), .second, .val (.long r1), .second, .val (.int s11_0), .val (.long a), .second, .val (.long b), .second, .val (.long cz), .second, .val ((.ref a4)), .val (.int (14 : Int32)), .val (.long kk), .second, .val (.long q), .second, .val (.long ss2), .second, .val (.long ss3), .second, .val (.int v207_26), .val (.long v207_27), .second, .val ((.ref a134))]) (S' := [(.ref a134)]) rfl ⟨(XT.ii_ne_f (own_law_22 md x1 y1 z1 r1 s11_0 h_s11_0 a h_a b h_b cz h_cz hc49 bl65 h_bl65 bl72 h_bl72 bl79 h_bl79 kk h_kk z94 h_z94 hc123 q h_q ss2 h_ss2 ss3 h_ss3 v207_26 h_v207_26 v207_27 h_v207_27 rho135 gr136 HR151 z218 h_z218)), trivial⟩ ?_
          refine wp_virtual ok (wd hw 63 rfl) (wd hw 64 rfl) (wd hw 66 rfl) (wd hw 65 rfl) (wd hw 44 rfl) (wd hw 67 rfl) (by decide) (argsL := []) (rest := []) E143 (c_gin _ Z a0 hw a134 (q - gr136) h147 n0 Z149 E143 F145 g150) (ps := []) (by decide +kernel) (by rfl) (by rfl) (by rfl) (by decide +kernel) (by decide) (Nat.le_of_ble_eq_true rfl) (by decide) (by decide) ?_
          intro r156 h157 q158
          obtain ⟨e159, rfl⟩ := q158
          obtain ⟨z231, h_z231⟩ : ∃ z : Int64, z = (q - gr136) := ⟨_, rfl⟩
          have e159' := e159.trans (show _ = some (Value.long z231) by rw [h_z231])
          subst e159'
          show WP X n0 QL h147 4 53 234 #[.val (.int md), .val (.long x1), .second, .val (.long y1), .second, .val (.long z1), .second, .val (.long r1), .second, .val (.int s11_0), .val (.long a), .second, .val (.long b), .second, .val (.long cz), .second, .val ((.ref a4)), .val (.int (14 : Int32)), .val (.long kk), .second, .val (.long q), .second, .val (.long ss2), .second, .val (.long ss3), .second, .val (.int v207_26), .val (.long v207_27), .second, .val ((.ref a134))] [.long z231]
          refine wp_run ok hK (B := [(234, .lload 27, false), (236, .lcmp, false), (237, .ifCond .ne 7, false), (240, .iconst 1, false), (241, .goto 4, false)]) (by decide +kernel) (ps := [Op.ifCond.holds .ne (cmpL z231 v207_27) = false]) (pc' := 245) (L' := #[.val (.int md), .val (.long x1), .second, .val (.long y1), .second, .val (.long z1), .second, .val (.long r1), .second, .val (.int s11_0), .val (.long a), .second, .val (.long b), .second, .val (.long cz), .second, .val ((.ref a4)), .val (.int (14 : Int32)), .val (.long kk), .second, .val (.long q), .second, .val (.long ss2), .second, .val (.long ss3), .second, .val (.int v207_26), .val (.long v207_27), .second, .val ((.ref a134))]) (S' := [.int (1 : Int32)]) rfl ⟨(XT.ll_ne_f (own_law_23 md x1 y1 z1 r1 s11_0 h_s11_0 a h_a b h_b cz h_cz hc49 bl65 h_bl65 bl72 h_bl72 bl79 h_bl79 kk h_kk z94 h_z94 hc123 q h_q ss2 h_ss2 ss3 h_ss3 v207_26 h_v207_26 v207_27 h_v207_27 rho135 gr136 HR151 z218 h_z218 z231 h_z231)), trivial⟩ ?_
          refine wp_retZ ok (t := .boolean) (by simp) (by decide +kernel) (by decide) (by decide) ?_
          exact congrArg (fun z => some (Value.int z)) (own_law_24 md x1 y1 z1 r1 s11_0 h_s11_0 a h_a b h_b cz h_cz hc49 bl65 h_bl65 bl72 h_bl72 bl79 h_bl79 kk h_kk z94 h_z94 hc123 q h_q ss2 h_ss2 ss3 h_ss3 v207_26 h_v207_26 v207_27 h_v207_27 rho135 gr136 HR151 z218 h_z218 z231 h_z231)
        by_cases c131 : q < ss3
        · by_cases c132 : q < ss2
          · refine wp_run ok hK (B := [(161, .ifCond .lt 16, true), (177, .lload 20, false), (179, .lload 22, false), (181, .lcmp, false), (182, .ifCond .lt 16, true), (198, .iconst 1, false), (199, .istore 26, false), (201, .lload 20, false), (203, .lconst 1, false), (204, .lsub, false), (205, .lstore 27, false)]) (by decide +kernel) (ps := [Op.ifCond.holds .lt (cmpL q ss3) = true, Op.ifCond.holds .lt (cmpL q ss2) = true]) (pc' := 207) (L' := #[.val (.int md), .val (.long x1), .second, .val (.long y1), .second, .val (.long z1), .second, .val (.long r1), .second, .val (.int s11_0), .val (.long a), .second, .val (.long b), .second, .val (.long cz), .second, .val ((.ref a4)), .val (.int (14 : Int32)), .val (.long kk), .second, .val (.long q), .second, .val (.long ss2), .second, .val (.long ss3), .second, .val (.int (1 : Int32)), .val (.long (q - (1 : Int64))), .second, .unset]) (S' := []) rfl ⟨(XT.ll_lt_t c131), (XT.ll_lt_t c132), trivial⟩ ?_
            exact J207_133 _ _ (by rw [if_pos c131, if_pos c132]) (by rw [if_pos c131, if_pos c132])
          · refine wp_run ok hK (B := [(161, .ifCond .lt 16, true), (177, .lload 20, false), (179, .lload 22, false), (181, .lcmp, false), (182, .ifCond .lt 16, false), (185, .iconst 2, false), (186, .istore 26, false), (188, .lload 20, false), (190, .lload 22, false), (192, .lsub, false), (193, .lstore 27, false)]) (by decide +kernel) (ps := [Op.ifCond.holds .lt (cmpL q ss3) = true, Op.ifCond.holds .lt (cmpL q ss2) = false]) (pc' := 195) (L' := #[.val (.int md), .val (.long x1), .second, .val (.long y1), .second, .val (.long z1), .second, .val (.long r1), .second, .val (.int s11_0), .val (.long a), .second, .val (.long b), .second, .val (.long cz), .second, .val ((.ref a4)), .val (.int (14 : Int32)), .val (.long kk), .second, .val (.long q), .second, .val (.long ss2), .second, .val (.long ss3), .second, .val (.int (2 : Int32)), .val (.long (q - ss2)), .second, .unset]) (S' := []) rfl ⟨(XT.ll_lt_t c131), (XT.ll_lt_f c132), trivial⟩ ?_
            refine wp_run ok hK (B := [(195, .goto 12, false)]) (by decide +kernel) (ps := []) (pc' := 207) (L' := #[.val (.int md), .val (.long x1), .second, .val (.long y1), .second, .val (.long z1), .second, .val (.long r1), .second, .val (.int s11_0), .val (.long a), .second, .val (.long b), .second, .val (.long cz), .second, .val ((.ref a4)), .val (.int (14 : Int32)), .val (.long kk), .second, .val (.long q), .second, .val (.long ss2), .second, .val (.long ss3), .second, .val (.int (2 : Int32)), .val (.long (q - ss2)), .second, .unset]) (S' := []) rfl trivial ?_
            exact J207_133 _ _ (by rw [if_pos c131, if_neg c132]) (by rw [if_pos c131, if_neg c132])
        · refine wp_run ok hK (B := [(161, .ifCond .lt 16, false), (164, .iconst 3, false), (165, .istore 26, false), (167, .lload 20, false), (169, .lload 24, false), (171, .lsub, false), (172, .lstore 27, false)]) (by decide +kernel) (ps := [Op.ifCond.holds .lt (cmpL q ss3) = false]) (pc' := 174) (L' := #[.val (.int md), .val (.long x1), .second, .val (.long y1), .second, .val (.long z1), .second, .val (.long r1), .second, .val (.int s11_0), .val (.long a), .second, .val (.long b), .second, .val (.long cz), .second, .val ((.ref a4)), .val (.int (14 : Int32)), .val (.long kk), .second, .val (.long q), .second, .val (.long ss2), .second, .val (.long ss3), .second, .val (.int (3 : Int32)), .val (.long (q - ss3)), .second, .unset]) (S' := []) rfl ⟨(XT.ll_lt_f c131), trivial⟩ ?_
          refine wp_run ok hK (B := [(174, .goto 33, false)]) (by decide +kernel) (ps := []) (pc' := 207) (L' := #[.val (.int md), .val (.long x1), .second, .val (.long y1), .second, .val (.long z1), .second, .val (.long r1), .second, .val (.int s11_0), .val (.long a), .second, .val (.long b), .second, .val (.long cz), .second, .val ((.ref a4)), .val (.int (14 : Int32)), .val (.long kk), .second, .val (.long q), .second, .val (.long ss2), .second, .val (.long ss3), .second, .val (.int (3 : Int32)), .val (.long (q - ss3)), .second, .unset]) (S' := []) rfl trivial ?_
          exact J207_133 _ _ (by rw [if_neg c131]) (by rw [if_neg c131])
  by_cases c1 : (md &&& (1 : Int32)) = (0 : Int32)
  · refine wp_run ok hK (B := [(3, .ifCond .eq 7, true), (10, .iconst 0, false)]) (by decide +kernel) (ps := [Op.ifCond.holds .eq (md &&& (1 : Int32)) = true]) (pc' := 11) (L' := #[.val (.int md), .val (.long x1), .second, .val (.long y1), .second, .val (.long z1), .second, .val (.long r1), .second, .unset, .unset, .unset, .unset, .unset, .unset, .unset, .unset, .unset, .unset, .unset, .unset, .unset, .unset, .unset, .unset, .unset, .unset, .unset, .unset, .unset]) (S' := [.int (0 : Int32)]) rfl ⟨(XT.i0_eq_t c1), trivial⟩ ?_
    exact J11_2 _ (by rw [if_pos c1])
  · refine wp_run ok hK (B := [(3, .ifCond .eq 7, false), (6, .iconst 1, false), (7, .goto 4, false)]) (by decide +kernel) (ps := [Op.ifCond.holds .eq (md &&& (1 : Int32)) = false]) (pc' := 11) (L' := #[.val (.int md), .val (.long x1), .second, .val (.long y1), .second, .val (.long z1), .second, .val (.long r1), .second, .unset, .unset, .unset, .unset, .unset, .unset, .unset, .unset, .unset, .unset, .unset, .unset, .unset, .unset, .unset, .unset, .unset, .unset, .unset, .unset, .unset]) (S' := [.int (1 : Int32)]) rfl ⟨(XT.i0_eq_f c1), trivial⟩ ?_
    exact J11_2 _ (by rw [if_neg c1])
set_option maxRecDepth 65536 in
set_option maxHeartbeats 40000000 in
theorem comes_1 {Post : Tables → Env → Array Value → State → Outcome → State → Prop} (hpost : ∀ tb e args s v u, (limb_1_1.after args s (.returned v) u = true ∧ limb_1_2.after args s (.returned v) u = true ∧ True) → FrameEnd s (.returned v) u (Jvm.fieldLocs frame_1_writes args s ++ Jvm.arrayLocs frame_1_arrays args s ++ Jvm.staticLocs frame_1_statics s) 16 192 → Post tb e args s (.returned v) u) :
    ArmFor flags0 classFile x code maxLocals ret World_1 tables_1 room_1 Calls_1 rest_1 Pre_1 Post := by
  intro l hfl _ _ p e ha hc hk s m args below hf hA hF happ hP
  obtain ⟨hcalls, hrest, hpre⟩ := hP
  obtain ⟨-, -, -, hnamed, -, -, -, hat⟩ := (Spec.applies_iff hf).mp happ
  obtain ⟨hg, hn⟩ := and_e (Cond.before_iff.mp (show (Jvm.Cond.and given_1 narrow_1).before args s = true from hpre))
  obtain ⟨h1, g0⟩ := and_e hg
  obtain ⟨f0, g1⟩ := and_e g0
  obtain ⟨f1, g2⟩ := and_e g1
  obtain ⟨f2, g3⟩ := and_e g2
  obtain ⟨f3, g4⟩ := and_e g3
  obtain ⟨w0, w1, w2, w3, w4, rfl⟩ : ∃ w0 w1 w2 w3 w4 : Value, args = #[w0, w1, w2, w3, w4] := by
    have hs : args.size = 5 := by simpa [Cond.value, given_1] using h1
    obtain ⟨L⟩ := args
    match L, hs with
    | [w0, w1, w2, w3, w4], _ => exact ⟨w0, w1, w2, w3, w4, rfl⟩
  have hw := fun d (hd : d ∈ tables_1) => atoms_spec (ws := Jvm.Cond.code x code maxLocals ret :: tables_1) hat d (List.mem_cons_of_mem _ hd)
  obtain ⟨i0, e0⟩ := is_v f0
  obtain rfl : w0 = (.int i0) := Option.some.inj e0
  obtain ⟨i1, e1⟩ := isL_v f1
  obtain rfl : w1 = (.long i1) := Option.some.inj e1
  obtain ⟨i2, e2⟩ := isL_v f2
  obtain rfl : w2 = (.long i2) := Option.some.inj e2
  obtain ⟨i3, e3⟩ := isL_v f3
  obtain rfl : w3 = (.long i3) := Option.some.inj e3
  obtain ⟨i4, e4⟩ := isL_v g4
  obtain rfl : w4 = (.long i4) := Option.some.inj e4
  obtain ⟨n, o, h1, h2, h3, _, L, rfl, ⟨rfl, N⟩, hq⟩ := c_law l s _ hw i0 i1 i2 i3 i4 s.heap s.heap.size (Nat.le_refl _) p e ha hc hk s m _ below hf ((Spec.applies_iff_loose hf).mp happ).1 ⟨rfl, State.Warmed39.refl s, rfl⟩ trivial
  refine ⟨n, _, h1, h2, h3, hpost _ _ _ _ _ _ ⟨Cond.after_iff.mpr rfl, Cond.after_iff.mpr (eq_i res_at (Term.int_eval (1)) rfl), trivial⟩ ⟨hq.1, hq.2.1, (hq.2.2.sift fun y hy => Or.inr (N y hy)).mono (by decide) (by decide)⟩⟩
theorem main_1_1 : Claimed_1_1 := comes_1 fun _ _ _ _ _ _ h hF => ⟨h.1, hF⟩
theorem main_1_2 : Claimed_1_2 := comes_1 fun _ _ _ _ _ _ h hF => ⟨h.2.1, hF⟩
end Jvm.Pilot.@@N@@
namespace Jvm.Pilot.@@N@@
open Jvm Jvm.ClassFile Sem Op Lib Jvm.Free Jvm.Stand Jvm.Pilot.@@N@@.Jvm.D
/-! MADE BY PROGRAM (witnessworld.py) out of the Statement's table words and the real class files: 16 classes; the members and pool entries that the words name. The judged class is class 1, her method 2. -/
namespace start1
open Jvm.ClassFile
def u (s : String) : CpInfo := .utf8 (stringToUtf16 s)
/-- a pool by its gaps: so many unusable entries, then the entry; so many at the end -/
def gap : Nat → List CpInfo → List CpInfo
  | 0, r => r
  | n + 1, r => .unusable :: gap n r
def poolList (es : List (Nat × CpInfo)) (last : Nat) : List CpInfo := es.foldr (fun e r => gap e.1 (e.2 :: r)) (gap last [])
def pool (es : List (Nat × CpInfo)) (last : Nat) : Array CpInfo := ⟨poolList es last⟩
def fileOf (pool : Array CpInfo) (this : Nat) (attrs : Array Attribute := #[]) (ms : Array MethodInfo := #[]) (fl : Nat := 33) (sup : Nat := 0) (ifs : Array Nat := #[]) (fds : Array FieldInfo := #[]) : ClassFile where
  minorVersion := 0
  majorVersion := 65
  constantPool := pool
  accessFlags := fl
  thisClass := this
  superClass := sup
  interfaces := ifs
  fields := fds
  methods := ms
  attributes := attrs
def plain (name : String) (sup : Option ClassId) : Class where
  name := name
  kind := .ordinary
  loader := none
  accessFlags := 33
  super := sup
  interfaces := #[]
  cf := none
  fields := #[]
  methods := #[]
  instanceTypes := #[]
  staticTypes := #[]
  resolved := #[]
  callSites := []
  init := .initialized
  statics := none
  mirror := none

def pool0 : Array CpInfo := pool [(5, u "<init>"), (0, u "()V"), (1, .class_ 10), (1, u "java/lang/Object")] 113

def k0c0 : Code := { maxStack := 0, maxLocals := 1, code := object_method_1_code, exceptionTable := #[], attributes := #[] }
def k0m0 : Method := { name := "<init>", desc := "()V", sig := { parameters := [], returnType := none }, accessFlags := 1, code := some k0c0 }
/-- java/lang/Object -/
def k0 : Class := { plain "java/lang/Object" none with
  accessFlags := 33
  interfaces := #[]
  cf := some (fileOf pool0 8 #[] #[{ accessFlags := 1, nameIndex := 5, descriptorIndex := 6, attributes := #[] }] 33 0 #[] #[])
  fields := #[]
  methods := #[k0m0]
  instanceTypes := #[]
  staticTypes := #[]
  resolved := Array.replicate 124 none
  statics := none }

def pool1 : Array CpInfo := pool [(2, .class_ 4), (0, .nameAndType 5 6), (0, u "java/lang/Object"), (0, u "<init>"), (0, u "()V"), (0, .methodref 8 9), (0, .class_ 10), (0, .nameAndType 11 12), (0, u "com/example/attestore/attestore/server/BlockIndex"), (0, u "add"), (0, u "(J)V"), (0, .long 1099511627775), (1, .methodref 8 3), (0, .methodref 17 18), (0, .class_ 19), (0, .nameAndType 20 21), (0, u "com/example/attestore/attestore/server/BlockIndexAddPinLaw"), (0, u "addEmpty14"), (0, u "(Lcom/example/attestore/attestore/server/BlockIndex;)V"), (0, .methodref 8 23), (0, .nameAndType 24 25), (0, u "files"), (0, u "()I"), (0, .methodref 8 27), (0, .nameAndType 28 29), (0, u "blocks"), (0, u "()J"), (2, .long 9223372036854775807), (1, .methodref 8 35), (0, .nameAndType 36 37), (0, u "locate"), (0, u "(J)Lcom/example/attestore/attestore/server/BlockIndex$Located;"), (0, .methodref 39 40), (0, .class_ 41), (0, .nameAndType 42 25), (0, u "com/example/attestore/attestore/server/BlockIndex$Located"), (0, u "file"), (0, .methodref 39 44), (0, .nameAndType 45 29), (0, u "index"), (2, u "law"), (0, u "(IJJJJ)Z")] 5

def k1m0 : Method := { name := "<init>", desc := "()V", sig := { parameters := [], returnType := none }, accessFlags := 1, code := none }
def k1c1 : Code := { maxStack := 3, maxLocals := 1, code := method_2_code, exceptionTable := #[], attributes := #[] }
def k1m1 : Method := { name := "addEmpty14", desc := "(Lcom/example/attestore/attestore/server/BlockIndex;)V", sig := { parameters := [(.object "com/example/attestore/attestore/server/BlockIndex")], returnType := none }, accessFlags := 10, code := some k1c1 }
def k1c2 : Code := { maxStack := 6, maxLocals := 30, code := code, exceptionTable := #[], attributes := #[] }
def k1m2 : Method := { name := "law", desc := "(IJJJJ)Z", sig := { parameters := [.int, .long, .long, .long, .long], returnType := some .boolean }, accessFlags := 9, code := some k1c2 }
/-- com/example/attestore/attestore/server/BlockIndexAddPinLaw -/
def k1 : Class := { plain "com/example/attestore/attestore/server/BlockIndexAddPinLaw" (some 0) with
  accessFlags := 49
  interfaces := #[]
  cf := some (fileOf pool1 17 #[] #[{ accessFlags := 1, nameIndex := 5, descriptorIndex := 6, attributes := #[] }, { accessFlags := 10, nameIndex := 20, descriptorIndex := 21, attributes := #[] }, { accessFlags := 9, nameIndex := 48, descriptorIndex := 49, attributes := #[] }] 49 2 #[] #[])
  fields := #[]
  methods := #[k1m0, k1m1, k1m2]
  instanceTypes := #[]
  staticTypes := #[]
  resolved := Array.replicate 55 none
  statics := none }

def pool2 : Array CpInfo := pool [(1, .methodref 2 3), (0, .class_ 4), (0, .nameAndType 5 6), (0, u "java/lang/Object"), (0, u "<init>"), (0, u "()V"), (0, .fieldref 8 9), (0, .class_ 10), (0, .nameAndType 11 12), (0, u "com/example/attestore/attestore/server/BlockIndex"), (0, u "starts"), (0, u "[J"), (0, .fieldref 8 14), (0, .nameAndType 15 16), (0, u "files"), (0, u "I"), (0, .methodref 18 19), (0, .class_ 20), (0, .nameAndType 21 22), (0, u "java/util/Arrays"), (0, u "copyOf"), (0, u "([JI)[J"), (0, .fieldref 8 24), (0, .nameAndType 25 26), (0, u "blocks"), (0, u "J"), (0, .methodref 8 28), (0, .nameAndType 29 30), (0, u "fileOf"), (0, u "(J)I"), (0, .class_ 32), (0, u "com/example/attestore/attestore/server/BlockIndex$Located"), (0, .methodref 31 34), (0, .nameAndType 5 35), (0, u "(IJ)V"), (2, u "add"), (0, u "(J)V"), (1, u "()I"), (0, u "()J"), (0, u "locate"), (0, u "(J)Lcom/example/attestore/attestore/server/BlockIndex$Located;")] 5

def k2c0 : Code := { maxStack := 2, maxLocals := 1, code := prog_59_method_1_code, exceptionTable := #[], attributes := #[] }
def k2m0 : Method := { name := "<init>", desc := "()V", sig := { parameters := [], returnType := none }, accessFlags := 0, code := some k2c0 }
def k2c1 : Code := { maxStack := 6, maxLocals := 3, code := prog_59_method_2_code, exceptionTable := #[], attributes := #[] }
def k2m1 : Method := { name := "add", desc := "(J)V", sig := { parameters := [.long], returnType := none }, accessFlags := 0, code := some k2c1 }
def k2c2 : Code := { maxStack := 1, maxLocals := 1, code := prog_59_method_3_code, exceptionTable := #[], attributes := #[] }
def k2m2 : Method := { name := "files", desc := "()I", sig := { parameters := [], returnType := some .int }, accessFlags := 0, code := some k2c2 }
def k2c3 : Code := { maxStack := 2, maxLocals := 1, code := prog_59_method_4_code, exceptionTable := #[], attributes := #[] }
def k2m3 : Method := { name := "blocks", desc := "()J", sig := { parameters := [], returnType := some .long }, accessFlags := 0, code := some k2c3 }
def k2c4 : Code := { maxStack := 8, maxLocals := 4, code := prog_59_method_5_code, exceptionTable := #[], attributes := #[] }
def k2m4 : Method := { name := "locate", desc := "(J)Lcom/example/attestore/attestore/server/BlockIndex$Located;", sig := { parameters := [.long], returnType := some (.object "com/example/attestore/attestore/server/BlockIndex$Located") }, accessFlags := 0, code := some k2c4 }
def k2c5 : Code := { maxStack := 4, maxLocals := 6, code := prog_59_method_6_code, exceptionTable := #[], attributes := #[] }
def k2m5 : Method := { name := "fileOf", desc := "(J)I", sig := { parameters := [.long], returnType := some .int }, accessFlags := 2, code := some k2c5 }
/-- com/example/attestore/attestore/server/BlockIndex -/
def k2 : Class := { plain "com/example/attestore/attestore/server/BlockIndex" (some 0) with
  accessFlags := 48
  interfaces := #[]
  cf := some (fileOf pool2 8 #[.nestMembers #[31]] #[{ accessFlags := 0, nameIndex := 5, descriptorIndex := 6, attributes := #[] }, { accessFlags := 0, nameIndex := 38, descriptorIndex := 39, attributes := #[] }, { accessFlags := 0, nameIndex := 15, descriptorIndex := 41, attributes := #[] }, { accessFlags := 0, nameIndex := 25, descriptorIndex := 42, attributes := #[] }, { accessFlags := 0, nameIndex := 43, descriptorIndex := 44, attributes := #[] }, { accessFlags := 2, nameIndex := 29, descriptorIndex := 30, attributes := #[] }] 48 2 #[] #[{ accessFlags := 2, nameIndex := 11, descriptorIndex := 12, attributes := #[] }, { accessFlags := 2, nameIndex := 15, descriptorIndex := 16, attributes := #[] }, { accessFlags := 2, nameIndex := 25, descriptorIndex := 26, attributes := #[] }])
  fields := #[{ name := "starts", type := (.array .long), accessFlags := 2, slot := 0, constantValue := 0 }, { name := "files", type := .int, accessFlags := 2, slot := 1, constantValue := 0 }, { name := "blocks", type := .long, accessFlags := 2, slot := 2, constantValue := 0 }]
  methods := #[k2m0, k2m1, k2m2, k2m3, k2m4, k2m5]
  instanceTypes := #[(.array .long), .int, .long]
  staticTypes := #[]
  resolved := Array.replicate 50 none
  statics := none }

def pool3 : Array CpInfo := pool [(1, .methodref 2 3), (0, .class_ 4), (0, .nameAndType 5 6), (0, u "java/lang/Object"), (0, u "<init>"), (0, u "()V"), (0, .class_ 8), (0, u "java/lang/Record")] 13

def k3c0 : Code := { maxStack := 1, maxLocals := 1, code := jdk_30_method_1_code, exceptionTable := #[], attributes := #[] }
def k3m0 : Method := { name := "<init>", desc := "()V", sig := { parameters := [], returnType := none }, accessFlags := 4, code := some k3c0 }
/-- java/lang/Record -/
def k3 : Class := { plain "java/lang/Record" (some 0) with
  accessFlags := 1057
  interfaces := #[]
  cf := some (fileOf pool3 7 #[] #[{ accessFlags := 4, nameIndex := 5, descriptorIndex := 6, attributes := #[] }] 1057 2 #[] #[])
  fields := #[]
  methods := #[k3m0]
  instanceTypes := #[]
  staticTypes := #[]
  resolved := Array.replicate 22 none
  statics := none }

def pool4 : Array CpInfo := pool [(1, .methodref 2 3), (0, .class_ 4), (0, .nameAndType 5 6), (0, u "java/lang/Record"), (0, u "<init>"), (0, u "()V"), (0, .fieldref 8 9), (0, .class_ 10), (0, .nameAndType 11 12), (0, u "com/example/attestore/attestore/server/BlockIndex$Located"), (0, u "file"), (0, u "I"), (0, .fieldref 8 14), (0, .nameAndType 15 16), (0, u "index"), (0, u "J"), (12, u "(IJ)V"), (4, u "()I"), (1, u "()J"), (3, .class_ 41), (0, u "com/example/attestore/attestore/server/BlockIndex")] 20

def k4c0 : Code := { maxStack := 3, maxLocals := 4, code := prog_60_method_1_code, exceptionTable := #[], attributes := #[] }
def k4m0 : Method := { name := "<init>", desc := "(IJ)V", sig := { parameters := [.int, .long], returnType := none }, accessFlags := 0, code := some k4c0 }
def k4c1 : Code := { maxStack := 1, maxLocals := 1, code := prog_60_method_5_code, exceptionTable := #[], attributes := #[] }
def k4m1 : Method := { name := "file", desc := "()I", sig := { parameters := [], returnType := some .int }, accessFlags := 1, code := some k4c1 }
def k4c2 : Code := { maxStack := 2, maxLocals := 1, code := prog_60_method_6_code, exceptionTable := #[], attributes := #[] }
def k4m2 : Method := { name := "index", desc := "()J", sig := { parameters := [], returnType := some .long }, accessFlags := 1, code := some k4c2 }
/-- com/example/attestore/attestore/server/BlockIndex$Located -/
def k4 : Class := { plain "com/example/attestore/attestore/server/BlockIndex$Located" (some 3) with
  accessFlags := 48
  interfaces := #[]
  cf := some (fileOf pool4 8 #[.nestHost 40] #[{ accessFlags := 0, nameIndex := 5, descriptorIndex := 29, attributes := #[] }, { accessFlags := 1, nameIndex := 11, descriptorIndex := 34, attributes := #[] }, { accessFlags := 1, nameIndex := 15, descriptorIndex := 36, attributes := #[] }] 48 2 #[] #[{ accessFlags := 18, nameIndex := 11, descriptorIndex := 12, attributes := #[] }, { accessFlags := 18, nameIndex := 15, descriptorIndex := 16, attributes := #[] }])
  fields := #[{ name := "file", type := .int, accessFlags := 18, slot := 0, constantValue := 0 }, { name := "index", type := .long, accessFlags := 18, slot := 1, constantValue := 0 }]
  methods := #[k4m0, k4m1, k4m2]
  instanceTypes := #[.int, .long]
  staticTypes := #[]
  resolved := Array.replicate 62 none
  statics := none }

def pool5 : Array CpInfo := pool [(2, .class_ 4), (1, u "java/lang/Object"), (0, u "<init>"), (0, u "()V"), (7, .class_ 16), (1, u "java/util/Arrays"), (57, .class_ 76), (1, u "java/util/Arrays$NaturalOrder"), (36, .class_ 115), (1, u "java/util/Arrays$LegacyMergeSort"), (1, u "Z"), (32, .methodref 151 152), (0, .class_ 153), (0, .nameAndType 154 155), (0, u "java/lang/System"), (0, u "arraycopy"), (0, u "(Ljava/lang/Object;ILjava/lang/Object;II)V"), (146, u "copyOf"), (1, .methodref 305 306), (0, .class_ 307), (0, .nameAndType 308 309), (0, u "java/lang/Math"), (0, u "min"), (0, u "(II)I"), (65, .class_ 376), (0, u "java/util/Arrays$ArrayList"), (68, u "$assertionsDisabled"), (269, u "MIN_ARRAY_SORT_GRAN"), (0, u "I"), (2, u "INSERTIONSORT_THRESHOLD"), (152, u "([JI)[J"), (102, .class_ 976), (0, u "java/util/Arrays$ArrayItr")] 52

def k5m0 : Method := { name := "<init>", desc := "()V", sig := { parameters := [], returnType := none }, accessFlags := 2, code := none }
def k5c1 : Code := { maxStack := 6, maxLocals := 3, code := jdk_65_method_124_code, exceptionTable := #[], attributes := #[] }
def k5m1 : Method := { name := "copyOf", desc := "([JI)[J", sig := { parameters := [(.array .long), .int], returnType := some (.array .long) }, accessFlags := 9, code := some k5c1 }
/-- java/util/Arrays -/
def k5 : Class := { plain "java/util/Arrays" (some 0) with
  accessFlags := 49
  interfaces := #[]
  cf := some (fileOf pool5 14 #[.nestMembers #[975, 375, 113, 74]] #[{ accessFlags := 2, nameIndex := 5, descriptorIndex := 6, attributes := #[] }, { accessFlags := 9, nameIndex := 302, descriptorIndex := 872, attributes := #[] }] 49 2 #[] #[{ accessFlags := 26, nameIndex := 715, descriptorIndex := 716, attributes := #[] }, { accessFlags := 26, nameIndex := 719, descriptorIndex := 716, attributes := #[] }, { accessFlags := 4120, nameIndex := 445, descriptorIndex := 117, attributes := #[] }])
  fields := #[{ name := "MIN_ARRAY_SORT_GRAN", type := .int, accessFlags := 26, slot := 0, constantValue := 0 }, { name := "INSERTIONSORT_THRESHOLD", type := .int, accessFlags := 26, slot := 1, constantValue := 0 }, { name := "$assertionsDisabled", type := .boolean, accessFlags := 4120, slot := 2, constantValue := 0 }]
  methods := #[k5m0, k5m1]
  instanceTypes := #[]
  staticTypes := #[.int, .int, .boolean]
  resolved := Array.replicate 1029 none
  statics := none }

def pool6 : Array CpInfo := pool [(1, .class_ 2), (0, u "java/lang/Math"), (1, .class_ 6), (1, u "java/lang/Object"), (0, u "<init>"), (0, u "()V"), (89, .class_ 100), (1, u "java/lang/Math$RandomNumberGeneratorHolder"), (71, u "negativeZeroFloatBits"), (0, u "J"), (2, u "negativeZeroDoubleBits"), (24, u "min"), (43, u "$assertionsDisabled"), (0, u "Z"), (88, u "(II)I"), (2, u "twoToTheDoubleScaleDown"), (0, u "D"), (4, u "twoToTheDoubleScaleUp"), (9, u "E"), (3, u "PI"), (2, u "TAU"), (2, u "DEGREES_TO_RADIANS"), (0, u "RADIANS_TO_DEGREES")] 94

def k6m0 : Method := { name := "<init>", desc := "()V", sig := { parameters := [], returnType := none }, accessFlags := 2, code := none }
def k6c1 : Code := { maxStack := 2, maxLocals := 2, code := jdk_29_method_69_code, exceptionTable := #[], attributes := #[] }
def k6m1 : Method := { name := "min", desc := "(II)I", sig := { parameters := [.int, .int], returnType := some .int }, accessFlags := 9, code := some k6c1 }
/-- java/lang/Math -/
def k6 : Class := { plain "java/lang/Math" (some 0) with
  accessFlags := 49
  interfaces := #[]
  cf := some (fileOf pool6 1 #[.nestMembers #[98]] #[{ accessFlags := 2, nameIndex := 7, descriptorIndex := 8, attributes := #[] }, { accessFlags := 9, nameIndex := 201, descriptorIndex := 335, attributes := #[] }] 49 4 #[] #[{ accessFlags := 25, nameIndex := 354, descriptorIndex := 339, attributes := #[] }, { accessFlags := 25, nameIndex := 358, descriptorIndex := 339, attributes := #[] }, { accessFlags := 25, nameIndex := 361, descriptorIndex := 339, attributes := #[] }, { accessFlags := 26, nameIndex := 364, descriptorIndex := 339, attributes := #[] }, { accessFlags := 26, nameIndex := 365, descriptorIndex := 339, attributes := #[] }, { accessFlags := 26, nameIndex := 172, descriptorIndex := 173, attributes := #[] }, { accessFlags := 26, nameIndex := 176, descriptorIndex := 173, attributes := #[] }, { accessFlags := 8, nameIndex := 344, descriptorIndex := 339, attributes := #[] }, { accessFlags := 8, nameIndex := 338, descriptorIndex := 339, attributes := #[] }, { accessFlags := 4120, nameIndex := 245, descriptorIndex := 246, attributes := #[] }])
  fields := #[{ name := "E", type := .double, accessFlags := 25, slot := 0, constantValue := 0 }, { name := "PI", type := .double, accessFlags := 25, slot := 1, constantValue := 0 }, { name := "TAU", type := .double, accessFlags := 25, slot := 2, constantValue := 0 }, { name := "DEGREES_TO_RADIANS", type := .double, accessFlags := 26, slot := 3, constantValue := 0 }, { name := "RADIANS_TO_DEGREES", type := .double, accessFlags := 26, slot := 4, constantValue := 0 }, { name := "negativeZeroFloatBits", type := .long, accessFlags := 26, slot := 5, constantValue := 0 }, { name := "negativeZeroDoubleBits", type := .long, accessFlags := 26, slot := 6, constantValue := 0 }, { name := "twoToTheDoubleScaleUp", type := .double, accessFlags := 8, slot := 7, constantValue := 0 }, { name := "twoToTheDoubleScaleDown", type := .double, accessFlags := 8, slot := 8, constantValue := 0 }, { name := "$assertionsDisabled", type := .boolean, accessFlags := 4120, slot := 9, constantValue := 0 }]
  methods := #[k6m0, k6m1]
  instanceTypes := #[]
  staticTypes := #[.double, .double, .double, .double, .double, .long, .long, .double, .double, .boolean]
  resolved := Array.replicate 460 none
  statics := none }

def pool7 : Array CpInfo := pool [(2, .class_ 4), (1, u "java/lang/Object"), (0, u "<init>"), (0, u "()V"), (1, .class_ 10), (1, u "java/lang/System"), (0, u "allowSecurityManager"), (0, u "I"), (16, u "cons"), (0, u "Ljava/io/Console;"), (77, .class_ 110), (1, u "java/lang/System$CallersHolder"), (43, u "initialErrStream"), (0, u "Ljava/io/PrintStream;"), (19, u "security"), (0, u "Ljava/lang/SecurityManager;"), (31, .class_ 209), (0, u "java/lang/System$1"), (7, u "props"), (0, u "Ljava/util/Properties;"), (2, u "lineSeparator"), (0, u "Ljava/lang/String;"), (96, .class_ 321), (1, u "java/lang/System$LoggerFinder"), (5, .class_ 328), (0, u "java/lang/System$Logger"), (67, u "err"), (2, u "out"), (91, u "notSupportedJnuEncoding"), (15, u "in"), (17, u "initialIn"), (0, u "Ljava/io/InputStream;"), (35, u "bootLayer"), (0, u "Ljava/lang/ModuleLayer;"), (99, .class_ 664), (0, u "java/lang/System$2"), (9, u "NEVER"), (2, u "MAYBE"), (49, u "arraycopy"), (0, u "(Ljava/lang/Object;ILjava/lang/Object;II)V"), (72, .class_ 802), (0, u "java/lang/System$Logger$Level")] 31

def k7m0 : Method := { name := "<init>", desc := "()V", sig := { parameters := [], returnType := none }, accessFlags := 2, code := none }
def k7m1 : Method := { name := "arraycopy", desc := "(Ljava/lang/Object;ILjava/lang/Object;II)V", sig := { parameters := [(.object "java/lang/Object"), .int, (.object "java/lang/Object"), .int, .int], returnType := none }, accessFlags := 265, code := none }
/-- java/lang/System -/
def k7 : Class := { plain "java/lang/System" (some 0) with
  accessFlags := 49
  interfaces := #[]
  cf := some (fileOf pool7 8 #[.nestMembers #[319, 327, 801, 108, 663, 208]] #[{ accessFlags := 2, nameIndex := 5, descriptorIndex := 6, attributes := #[] }, { accessFlags := 265, nameIndex := 727, descriptorIndex := 728, attributes := #[] }] 49 2 #[] #[{ accessFlags := 25, nameIndex := 507, descriptorIndex := 526, attributes := #[] }, { accessFlags := 25, nameIndex := 399, descriptorIndex := 155, attributes := #[] }, { accessFlags := 25, nameIndex := 396, descriptorIndex := 155, attributes := #[] }, { accessFlags := 10, nameIndex := 525, descriptorIndex := 526, attributes := #[] }, { accessFlags := 26, nameIndex := 674, descriptorIndex := 12, attributes := #[] }, { accessFlags := 26, nameIndex := 677, descriptorIndex := 12, attributes := #[] }, { accessFlags := 10, nameIndex := 11, descriptorIndex := 12, attributes := #[] }, { accessFlags := 74, nameIndex := 175, descriptorIndex := 176, attributes := #[] }, { accessFlags := 10, nameIndex := 491, descriptorIndex := 222, attributes := #[] }, { accessFlags := 74, nameIndex := 29, descriptorIndex := 30, attributes := #[] }, { accessFlags := 74, nameIndex := 154, descriptorIndex := 155, attributes := #[] }, { accessFlags := 10, nameIndex := 217, descriptorIndex := 218, attributes := #[] }, { accessFlags := 10, nameIndex := 221, descriptorIndex := 222, attributes := #[] }, { accessFlags := 8, nameIndex := 562, descriptorIndex := 563, attributes := #[] }])
  fields := #[{ name := "in", type := (.object "java/io/InputStream"), accessFlags := 25, slot := 0, constantValue := 0 }, { name := "out", type := (.object "java/io/PrintStream"), accessFlags := 25, slot := 1, constantValue := 0 }, { name := "err", type := (.object "java/io/PrintStream"), accessFlags := 25, slot := 2, constantValue := 0 }, { name := "initialIn", type := (.object "java/io/InputStream"), accessFlags := 10, slot := 3, constantValue := 0 }, { name := "NEVER", type := .int, accessFlags := 26, slot := 4, constantValue := 0 }, { name := "MAYBE", type := .int, accessFlags := 26, slot := 5, constantValue := 0 }, { name := "allowSecurityManager", type := .int, accessFlags := 10, slot := 6, constantValue := 0 }, { name := "security", type := (.object "java/lang/SecurityManager"), accessFlags := 74, slot := 7, constantValue := 0 }, { name := "notSupportedJnuEncoding", type := (.object "java/lang/String"), accessFlags := 10, slot := 8, constantValue := 0 }, { name := "cons", type := (.object "java/io/Console"), accessFlags := 74, slot := 9, constantValue := 0 }, { name := "initialErrStream", type := (.object "java/io/PrintStream"), accessFlags := 74, slot := 10, constantValue := 0 }, { name := "props", type := (.object "java/util/Properties"), accessFlags := 10, slot := 11, constantValue := 0 }, { name := "lineSeparator", type := (.object "java/lang/String"), accessFlags := 10, slot := 12, constantValue := 0 }, { name := "bootLayer", type := (.object "java/lang/ModuleLayer"), accessFlags := 8, slot := 13, constantValue := 0 }]
  methods := #[k7m0, k7m1]
  instanceTypes := #[]
  staticTypes := #[(.object "java/io/InputStream"), (.object "java/io/PrintStream"), (.object "java/io/PrintStream"), (.object "java/io/InputStream"), .int, .int, .int, (.object "java/lang/SecurityManager"), (.object "java/lang/String"), (.object "java/io/Console"), (.object "java/io/PrintStream"), (.object "java/util/Properties"), (.object "java/lang/String"), (.object "java/lang/ModuleLayer")]
  resolved := Array.replicate 834 none
  statics := none }

def pool8 : Array CpInfo := pool [(1, u "java/lang/Cloneable"), (0, .class_ 1), (0, u "java/lang/Object"), (0, .class_ 3)] 3

/-- java/lang/Cloneable -/
def k8 : Class := { plain "java/lang/Cloneable" (some 0) with
  accessFlags := 1537
  interfaces := #[]
  cf := some (fileOf pool8 2 #[] #[] 1537 4 #[] #[])
  fields := #[]
  methods := #[]
  instanceTypes := #[]
  staticTypes := #[]
  resolved := Array.replicate 8 none
  statics := none }

def pool9 : Array CpInfo := pool [(1, u "java/io/Serializable"), (0, .class_ 1), (0, u "java/lang/Object"), (0, .class_ 3)] 3

/-- java/io/Serializable -/
def k9 : Class := { plain "java/io/Serializable" (some 0) with
  accessFlags := 1537
  interfaces := #[]
  cf := some (fileOf pool9 2 #[] #[] 1537 4 #[] #[])
  fields := #[]
  methods := #[]
  instanceTypes := #[]
  staticTypes := #[]
  resolved := Array.replicate 8 none
  statics := none }

/-- the primitive byte -/
def k10 : Class := { plain "byte" none with kind := .primitive 'B', accessFlags := 0x411 }
/-- [B -/
def k11 : Class := { plain "[B" (some 0) with kind := .array 10 .byte, interfaces := #[8, 9], accessFlags := 1041 }

/-- the primitive int -/
def k12 : Class := { plain "int" none with kind := .primitive 'I', accessFlags := 0x411 }
/-- [I -/
def k13 : Class := { plain "[I" (some 0) with kind := .array 12 .int, interfaces := #[8, 9], accessFlags := 1041 }

/-- the primitive long -/
def k14 : Class := { plain "long" none with kind := .primitive 'J', accessFlags := 0x411 }
/-- [J -/
def k15 : Class := { plain "[J" (some 0) with kind := .array 14 .long, interfaces := #[8, 9], accessFlags := 1041 }

def heap : Heap := #[]
def classes : Array Class := #[k0, k1, k2, k3, k4, k5, k6, k7, k8, k9, k10, k11, k12, k13, k14, k15]
def interned : List (Array UInt16 × Addr) := []
def slotsUsed : Nat := 0
def theMethod : MethodId := ⟨1, 2⟩
def args0 : Array Value := #[.int 5, .long 3, .long 3, .long 3, .long 3]
def aboutOver (below : List Frame) : State where
  vm := { classes := classes, interned := interned.toArray }
  heap := heap
  slotsUsed := slotsUsed
  threads := #[{ frames := .invoking theMethod args0 :: below }]
def below0 : List Frame := [.native { method := ⟨0, 0⟩, args := #[] }]
def about1 : State := aboutOver below0
def p0 : Program := .bare "" "" ""
def e0 : Env := launch0.env 0 0 0
theorem w_frames : about1.frames = Frame.invoking theMethod args0 :: below0 := rfl
set_option maxRecDepth 65536 in
theorem w_args : argsFit about1.vm theMethod args0 = true := by decide +kernel
set_option maxRecDepth 65536 in
theorem w_heap : heapFits about1 = true := by decide +kernel
set_option maxRecDepth 65536 in
theorem w_runnable : about1.curStatus? = some .runnable := by decide +kernel
set_option maxRecDepth 65536 in
theorem w_alone : about1.alone = true := by decide +kernel
set_option maxRecDepth 65536 in
theorem w_named : about1.methodNamed? x = some theMethod := by decide +kernel
set_option maxRecDepth 65536 in
theorem w_hears : about1.hears theMethod below0 = true := by decide +kernel
set_option maxRecDepth 65536 in
theorem w_ripe : about1.ripe theMethod args0 below0 = true := by decide +kernel
theorem w_running : about1.status = .running := rfl
set_option maxRecDepth 65536 in
theorem w_room : about1.hasRoom e0.platform room_1 = true :=
  launch0.hasRoom_least _ room_1 (by decide +kernel) (by decide +kernel) (by decide +kernel) (by decide +kernel) (by decide +kernel) (by decide +kernel)
theorem allAtoms_all (ts : List Jvm.Cond) (a : Array Jvm.Value) (st : Jvm.State) : (allAtoms ts).before a st = ts.all (fun c => c.before a st) := by
  induction ts with
  | nil => rfl
  | cons c t ih =>
    show (Jvm.Cond.and c (allAtoms t)).before a st = _
    rw [Jvm.Cond.before_and, ih, List.all_cons]
def words1 : List Jvm.Cond := Jvm.Cond.code x code maxLocals ret :: tables_1
/-- a 'code' word, met by the world's own term for the bytes: nothing is compared byte by byte -/
theorem code_word {y : MethodName} {bytes : ByteArray} {mx : Nat} {rt : Option FieldType} {a : Array Value} {s : State} {m : MethodId} {meth : Method} {c : Code} (h1 : s.methodNamed? y = some m) (h2 : s.vm.method? m = some meth) (h3 : meth.code = some c) (h4 : c.code = bytes)
    (h5 : (c.maxLocals == mx && c.exceptionTable.isEmpty && decide (c.maxStack ≤ mostOperands) && decide (meth.sig.returnType = rt) && !meth.locks && decide (parseMethodDescriptor y.desc = some meth.sig)) = true) : (Jvm.Cond.code y bytes mx rt).before a s = true := by
  simp only [Bool.and_eq_true, beq_iff_eq, Bool.not_eq_true', decide_eq_true_eq] at h5
  obtain ⟨⟨⟨⟨⟨g1, g2⟩, g3⟩, g4⟩, g5⟩, g6⟩ := h5
  simp [Cond.before, Cond.holds, Cond.value, h1, h2, h3, h4, g1, g2, g3, g4, g5, g6]
def isCode : Jvm.Cond → Bool
  | .code _ _ _ _ => true
  | _ => false
theorem all_split {L : List Jvm.Cond} {P : Jvm.Cond → Bool} (h1 : L.all (fun c => isCode c || P c) = true) (h2 : ∀ c ∈ L.filter isCode, P c = true) : L.all P = true := by
  refine List.all_eq_true.mpr fun c hc => ?_
  have h := List.all_eq_true.mp h1 c hc
  rcases Bool.eq_false_or_eq_true (isCode c) with hi | hi
  · exact h2 c (List.mem_filter.mpr ⟨hc, hi⟩)
  · simpa [hi] using h
set_option maxRecDepth 65536 in
theorem w_c0 : (Jvm.Cond.code x code maxLocals ret).before args0 about1 = true := code_word (m := ⟨1, 2⟩) (meth := k1m2) (c := k1c2) (by decide +kernel) rfl rfl rfl (by decide +kernel)
set_option maxRecDepth 65536 in
theorem w_c1 : (Jvm.Cond.code ({ cls := "com/example/attestore/attestore/server/BlockIndex", name := "<init>", desc := "()V" } : Jvm.MethodName) prog_59_method_1_code (1 : Nat) (Option.none : Option Jvm.ClassFile.FieldType)).before args0 about1 = true := code_word (m := ⟨2, 0⟩) (meth := k2m0) (c := k2c0) (by decide +kernel) rfl rfl rfl (by decide +kernel)
set_option maxRecDepth 65536 in
theorem w_c2 : (Jvm.Cond.code ({ cls := "java/lang/Object", name := "<init>", desc := "()V" } : Jvm.MethodName) object_method_1_code (1 : Nat) (Option.none : Option Jvm.ClassFile.FieldType)).before args0 about1 = true := code_word (m := ⟨0, 0⟩) (meth := k0m0) (c := k0c0) (by decide +kernel) rfl rfl rfl (by decide +kernel)
set_option maxRecDepth 65536 in
theorem w_c3 : (Jvm.Cond.code ({ cls := "com/example/attestore/attestore/server/BlockIndex", name := "add", desc := "(J)V" } : Jvm.MethodName) prog_59_method_2_code (3 : Nat) (Option.none : Option Jvm.ClassFile.FieldType)).before args0 about1 = true := code_word (m := ⟨2, 1⟩) (meth := k2m1) (c := k2c1) (by decide +kernel) rfl rfl rfl (by decide +kernel)
set_option maxRecDepth 65536 in
theorem w_c4 : (Jvm.Cond.code ({ cls := "com/example/attestore/attestore/server/BlockIndex", name := "files", desc := "()I" } : Jvm.MethodName) prog_59_method_3_code (1 : Nat) (Option.some Jvm.ClassFile.FieldType.int)).before args0 about1 = true := code_word (m := ⟨2, 2⟩) (meth := k2m2) (c := k2c2) (by decide +kernel) rfl rfl rfl (by decide +kernel)
set_option maxRecDepth 65536 in
theorem w_c5 : (Jvm.Cond.code ({ cls := "com/example/attestore/attestore/server/BlockIndex", name := "blocks", desc := "()J" } : Jvm.MethodName) prog_59_method_4_code (1 : Nat) (Option.some Jvm.ClassFile.FieldType.long)).before args0 about1 = true := code_word (m := ⟨2, 3⟩) (meth := k2m3) (c := k2c3) (by decide +kernel) rfl rfl rfl (by decide +kernel)
set_option maxRecDepth 65536 in
theorem w_c6 : (Jvm.Cond.code ({ cls := "com/example/attestore/attestore/server/BlockIndex", name := "locate", desc := "(J)Lcom/example/attestore/attestore/server/BlockIndex$Located;" } : Jvm.MethodName) prog_59_method_5_code (4 : Nat) (Option.some (Jvm.ClassFile.FieldType.object "com/example/attestore/attestore/server/BlockIndex$Located"))).before args0 about1 = true := code_word (m := ⟨2, 4⟩) (meth := k2m4) (c := k2c4) (by decide +kernel) rfl rfl rfl (by decide +kernel)
set_option maxRecDepth 65536 in
theorem w_c7 : (Jvm.Cond.code ({ cls := "com/example/attestore/attestore/server/BlockIndex", name := "fileOf", desc := "(J)I" } : Jvm.MethodName) prog_59_method_6_code (6 : Nat) (Option.some Jvm.ClassFile.FieldType.int)).before args0 about1 = true := code_word (m := ⟨2, 5⟩) (meth := k2m5) (c := k2c5) (by decide +kernel) rfl rfl rfl (by decide +kernel)
set_option maxRecDepth 65536 in
theorem w_c8 : (Jvm.Cond.code ({ cls := "com/example/attestore/attestore/server/BlockIndex$Located", name := "<init>", desc := "(IJ)V" } : Jvm.MethodName) prog_60_method_1_code (4 : Nat) (Option.none : Option Jvm.ClassFile.FieldType)).before args0 about1 = true := code_word (m := ⟨4, 0⟩) (meth := k4m0) (c := k4c0) (by decide +kernel) rfl rfl rfl (by decide +kernel)
set_option maxRecDepth 65536 in
theorem w_c9 : (Jvm.Cond.code ({ cls := "java/lang/Record", name := "<init>", desc := "()V" } : Jvm.MethodName) jdk_30_method_1_code (1 : Nat) (Option.none : Option Jvm.ClassFile.FieldType)).before args0 about1 = true := code_word (m := ⟨3, 0⟩) (meth := k3m0) (c := k3c0) (by decide +kernel) rfl rfl rfl (by decide +kernel)
set_option maxRecDepth 65536 in
theorem w_c10 : (Jvm.Cond.code ({ cls := "com/example/attestore/attestore/server/BlockIndex$Located", name := "file", desc := "()I" } : Jvm.MethodName) prog_60_method_5_code (1 : Nat) (Option.some Jvm.ClassFile.FieldType.int)).before args0 about1 = true := code_word (m := ⟨4, 1⟩) (meth := k4m1) (c := k4c1) (by decide +kernel) rfl rfl rfl (by decide +kernel)
set_option maxRecDepth 65536 in
theorem w_c11 : (Jvm.Cond.code ({ cls := "com/example/attestore/attestore/server/BlockIndex$Located", name := "index", desc := "()J" } : Jvm.MethodName) prog_60_method_6_code (1 : Nat) (Option.some Jvm.ClassFile.FieldType.long)).before args0 about1 = true := code_word (m := ⟨4, 2⟩) (meth := k4m2) (c := k4c2) (by decide +kernel) rfl rfl rfl (by decide +kernel)
set_option maxRecDepth 65536 in
theorem w_c12 : (Jvm.Cond.code ({ cls := "com/example/attestore/attestore/server/BlockIndexAddPinLaw", name := "addEmpty14", desc := "(Lcom/example/attestore/attestore/server/BlockIndex;)V" } : Jvm.MethodName) method_2_code (1 : Nat) (Option.none : Option Jvm.ClassFile.FieldType)).before args0 about1 = true := code_word (m := ⟨1, 1⟩) (meth := k1m1) (c := k1c1) (by decide +kernel) rfl rfl rfl (by decide +kernel)
set_option maxRecDepth 65536 in
theorem w_c13 : (Jvm.Cond.code ({ cls := "java/util/Arrays", name := "copyOf", desc := "([JI)[J" } : Jvm.MethodName) jdk_65_method_124_code (3 : Nat) (Option.some (Jvm.ClassFile.FieldType.array Jvm.ClassFile.FieldType.long))).before args0 about1 = true := code_word (m := ⟨5, 1⟩) (meth := k5m1) (c := k5c1) (by decide +kernel) rfl rfl rfl (by decide +kernel)
set_option maxRecDepth 65536 in
theorem w_c14 : (Jvm.Cond.code ({ cls := "java/lang/Math", name := "min", desc := "(II)I" } : Jvm.MethodName) jdk_29_method_69_code (2 : Nat) (Option.some Jvm.ClassFile.FieldType.int)).before args0 about1 = true := code_word (m := ⟨6, 1⟩) (meth := k6m1) (c := k6c1) (by decide +kernel) rfl rfl rfl (by decide +kernel)
def codes1 : List Jvm.Cond := [Jvm.Cond.code x code maxLocals ret, Jvm.Cond.code ({ cls := "com/example/attestore/attestore/server/BlockIndex", name := "<init>", desc := "()V" } : Jvm.MethodName) prog_59_method_1_code (1 : Nat) (Option.none : Option Jvm.ClassFile.FieldType), Jvm.Cond.code ({ cls := "java/lang/Object", name := "<init>", desc := "()V" } : Jvm.MethodName) object_method_1_code (1 : Nat) (Option.none : Option Jvm.ClassFile.FieldType), Jvm.Cond.code ({ cls := "com/example/attestore/attestore/server/BlockIndex", name := "add", desc := "(J)V" } : Jvm.MethodName) prog_59_method_2_code (3 : Nat) (Option.none : Option Jvm.ClassFile.FieldType), Jvm.Cond.code ({ cls := "com/example/attestore/attestore/server/BlockIndex", name := "files", desc := "()I" } : Jvm.MethodName) prog_59_method_3_code (1 : Nat) (Option.some Jvm.ClassFile.FieldType.int), Jvm.Cond.code ({ cls := "com/example/attestore/attestore/server/BlockIndex", name := "blocks", desc := "()J" } : Jvm.MethodName) prog_59_method_4_code (1 : Nat) (Option.some Jvm.ClassFile.FieldType.long), Jvm.Cond.code ({ cls := "com/example/attestore/attestore/server/BlockIndex", name := "locate", desc := "(J)Lcom/example/attestore/attestore/server/BlockIndex$Located;" } : Jvm.MethodName) prog_59_method_5_code (4 : Nat) (Option.some (Jvm.ClassFile.FieldType.object "com/example/attestore/attestore/server/BlockIndex$Located")), Jvm.Cond.code ({ cls := "com/example/attestore/attestore/server/BlockIndex", name := "fileOf", desc := "(J)I" } : Jvm.MethodName) prog_59_method_6_code (6 : Nat) (Option.some Jvm.ClassFile.FieldType.int), Jvm.Cond.code ({ cls := "com/example/attestore/attestore/server/BlockIndex$Located", name := "<init>", desc := "(IJ)V" } : Jvm.MethodName) prog_60_method_1_code (4 : Nat) (Option.none : Option Jvm.ClassFile.FieldType), Jvm.Cond.code ({ cls := "java/lang/Record", name := "<init>", desc := "()V" } : Jvm.MethodName) jdk_30_method_1_code (1 : Nat) (Option.none : Option Jvm.ClassFile.FieldType), Jvm.Cond.code ({ cls := "com/example/attestore/attestore/server/BlockIndex$Located", name := "file", desc := "()I" } : Jvm.MethodName) prog_60_method_5_code (1 : Nat) (Option.some Jvm.ClassFile.FieldType.int), Jvm.Cond.code ({ cls := "com/example/attestore/attestore/server/BlockIndex$Located", name := "index", desc := "()J" } : Jvm.MethodName) prog_60_method_6_code (1 : Nat) (Option.some Jvm.ClassFile.FieldType.long), Jvm.Cond.code ({ cls := "com/example/attestore/attestore/server/BlockIndexAddPinLaw", name := "addEmpty14", desc := "(Lcom/example/attestore/attestore/server/BlockIndex;)V" } : Jvm.MethodName) method_2_code (1 : Nat) (Option.none : Option Jvm.ClassFile.FieldType), Jvm.Cond.code ({ cls := "java/util/Arrays", name := "copyOf", desc := "([JI)[J" } : Jvm.MethodName) jdk_65_method_124_code (3 : Nat) (Option.some (Jvm.ClassFile.FieldType.array Jvm.ClassFile.FieldType.long)), Jvm.Cond.code ({ cls := "java/lang/Math", name := "min", desc := "(II)I" } : Jvm.MethodName) jdk_29_method_69_code (2 : Nat) (Option.some Jvm.ClassFile.FieldType.int)]
set_option maxRecDepth 65536 in
theorem codes_eq : words1.filter isCode = codes1 := rfl
theorem w_codes : ∀ c ∈ words1.filter isCode, c.before args0 about1 = true := by
  rw [codes_eq]
  intro c hc
  simp only [codes1, List.mem_cons, List.not_mem_nil, or_false] at hc
  rcases hc with rfl | rfl | rfl | rfl | rfl | rfl | rfl | rfl | rfl | rfl | rfl | rfl | rfl | rfl | rfl
  · exact w_c0
  · exact w_c1
  · exact w_c2
  · exact w_c3
  · exact w_c4
  · exact w_c5
  · exact w_c6
  · exact w_c7
  · exact w_c8
  · exact w_c9
  · exact w_c10
  · exact w_c11
  · exact w_c12
  · exact w_c13
  · exact w_c14
set_option maxRecDepth 65536 in
theorem w_t1 : (words1.take 24).all (fun c => isCode c || c.before args0 about1) = true := by decide +kernel
set_option maxRecDepth 65536 in
theorem w_t2 : ((words1.drop 24).take 24).all (fun c => isCode c || c.before args0 about1) = true := by decide +kernel
set_option maxRecDepth 65536 in
theorem w_t3 : (((words1.drop 24).drop 24).take 24).all (fun c => isCode c || c.before args0 about1) = true := by decide +kernel
set_option maxRecDepth 65536 in
theorem w_t4 : (((words1.drop 24).drop 24).drop 24).all (fun c => isCode c || c.before args0 about1) = true := by decide +kernel
theorem w_tables : (allAtoms (Jvm.Cond.code x code maxLocals ret :: tables_1)).before args0 about1 = true := by
  rw [allAtoms_all]
  show words1.all (fun c => c.before args0 about1) = true
  refine all_split ?_ w_codes
  rw [← List.take_append_drop 24 words1, List.all_append, w_t1, ← List.take_append_drop 24 (words1.drop 24), List.all_append, w_t2, ← List.take_append_drop 24 ((words1.drop 24).drop 24), List.all_append, w_t3, w_t4]
  rfl
set_option maxRecDepth 65536 in
theorem w_case : (Jvm.Cond.and given_1 narrow_1).before args0 about1 = true := by decide +kernel
theorem w_applies : (headSpec (Jvm.Cond.code x code maxLocals ret :: tables_1) room_1).applies x e0.platform about1 = true :=
  (Spec.applies_iff w_frames).mpr ⟨w_running, w_runnable, w_alone, w_named, w_hears, w_ripe, w_room, w_tables⟩
theorem atStart : AtStart classFile x code maxLocals ret World_1 tables_1 room_1 Calls_1 rest_1 Pre_1 launch0 p0 e0 about1 theMethod args0 below0 :=
  ⟨lists_1, trivial, launch0.admits_env _ _ _, launch0.least_env, fairChoices_fair.cas, fairChoices_fair.clock, w_frames, w_args, w_heap, w_applies, trivial, trivial, w_case⟩
end start1
theorem witness_1 : WitnessClaimed_1 := ⟨start1.p0, start1.e0, start1.about1, start1.theMethod, start1.args0, start1.below0, start1.atStart⟩
end Jvm.Pilot.@@N@@
