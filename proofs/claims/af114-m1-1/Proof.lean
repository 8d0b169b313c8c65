import JvmDerived
import JvmDerived.Pilot.@@N@@Statement
import JvmDerived.Pilot.@@N@@Code
set_option linter.unusedVariables false
set_option linter.unusedSimpArgs false
namespace Jvm.Pilot.@@N@@
open Jvm Jvm.ClassFile Sem Op Lib Jvm.Free Jvm.Stand Jvm.LawKit Jvm.RoadKit Bundle Jvm.Pilot.@@N@@.Jvm.D
section OwnKit
variable {p : Program} {l : Launch} {e : Env} {R : Room} {s : State} {m : MethodId} {args : Array Value} {below : List Frame} {meth : Method} {c : Code} {T : State} {locs : List Loc} {cells slots : Nat}
def own_G (tb : Tables) (e : Env) (below : List Frame) (s : State) (Q : Option Value → Heap → List Loc → Prop) (k n : Nat) (A : State) : Prop :=
  ∃ u o, Steps tb e below A u ∧ u.status = .running ∧ Ended u below o ∧ ∃ v L, o = Outcome.returned v ∧ Q v u.heap L ∧ FrameEnd s o u L k n
theorem own_go {tb : Tables} {Q : Option Value → Heap → List Loc → Prop} {k n : Nat} {A B : State} (h : ∀ t, Steps tb e below B t → Steps tb e below A t) (g : own_G tb e below s Q k n B) : own_G tb e below s Q k n A := by
  obtain ⟨u, o, h1, r⟩ := g; exact ⟨u, o, h u h1, r⟩
theorem own_ret (X : Stand p l e R s m args below meth c T locs cells slots) (hx : p.tables.exec = Jvm.exec) {pc : Nat} {Ls : Array Slot} {w : Value} {t : FieldType} {i : Instr} {rest : List Value} (hret : meth.sig.returnType = some t) (hn : narrow t w = w)
    (hi : (i = .ireturn ∧ (t = .int ∨ t = .boolean ∨ t = .byte ∨ t = .char ∨ t = .short) ∧ ∃ z, w = .int z) ∨ (i = .lreturn ∧ t = .long ∧ ∃ z, w = .long z) ∨ (i = .dreturn ∧ t = .double ∧ ∃ z, w = .double z) ∨ (i = .freturn ∧ t = .float ∧ ∃ z, w = .float z) ∨ (i = .areturn ∧ t.isReference = true ∧ w.isRef = true))
    (hd : decode c.code pc = .ok (i, 1)) (hlocks : meth.locks = false) {Q : Option Value → Heap → List Loc → Prop} {k n : Nat} (hQ : Q (some w) T.heap locs) (hk : cells ≤ k) (hs : slots ≤ n) : own_G p.tables e below s Q k n (T.setTop (mkF m pc Ls (w :: rest))) := by
  obtain ⟨fs, hr, hrun, hended, hW, hsame⟩ := X.leave (v := some w) (fun h => by rw [hret] at h; cases h) hlocks
  exact ⟨_, _, retOut X hx hret hn hi hd hr, hrun, hended, _, _, rfl, hQ, ⟨_, rfl⟩, hW, hsame.mono hk hs⟩
theorem own_retV (X : Stand p l e R s m args below meth c T locs cells slots) (hx : p.tables.exec = Jvm.exec) {pc : Nat} {Ls : Array Slot} (hret : meth.sig.returnType = none)
    (hd : decode c.code pc = .ok (.return_, 1)) (hlocks : meth.locks = false) {Q : Option Value → Heap → List Loc → Prop} {k n : Nat} (hQ : Q none T.heap locs) (hk : cells ≤ k) (hs : slots ≤ n) : own_G p.tables e below s Q k n (T.setTop (mkF m pc Ls [])) := by
  obtain ⟨fs, hr, hrun, hended, hW, hsame⟩ := X.leave (v := none) (fun _ => rfl) hlocks
  exact ⟨_, _, X.returnOut hx hret hd hr, hrun, hended, _, _, rfl, hQ, ⟨_, rfl⟩, hW, hsame.mono hk hs⟩
def own_Met (l : Launch) (Z : State) (y : MethodName) (bytes : ByteArray) (maxL : Nat) (ret : Option FieldType) (ws : List Jvm.Cond) (rm : Room) (as' : Array Value) (h0 : Heap) (Q : Option Value → Heap → List Loc → Prop) : Prop :=
  MetFree l y (head1 (Jvm.Cond.code y bytes maxL ret :: ws) rm) (fun a U => a = as' ∧ Z.Warmed39 U.vm ∧ U.heap = h0) (fun _ _ _ _ _ => True) (fun _ U o U' => ∃ v L, o = .returned v ∧ Q v U'.heap L ∧ FrameEnd U o U' L rm.cells rm.slots)
theorem own_body {l : Launch} {Z : State} {y : MethodName} {bytes : ByteArray} {maxL : Nat} {ret : Option FieldType} {ws : List Jvm.Cond} {rm : Room} {as' : Array Value} {h0 : Heap} {Q : Option Value → Heap → List Loc → Prop} (hp : plainFor y = true)
    (H : ∀ (p : Program) (e : Env) (s : State) (m : MethodId) (below : List Frame) (meth : Method) (c : Code) (s₁ : State), p.tables.exec = Jvm.exec → c.code = bytes → c.maxLocals = maxL → s.vm.findClass y.cls = some m.cls → meth.name = y.name → meth.locks = false → meth.sig.returnType = ret → Z.Warmed39 s.vm → Stand p l e rm s m as' below meth c s₁ [] 0 0 → s₁.heap = h0 →
      own_G p.tables e below s Q rm.cells rm.slots (s₁.setTop (entryFrame m as' maxL))) : own_Met l Z y bytes maxL ret ws rm as' h0 Q := by
  refine MetFree.of_bodySF hp hisR ?_
  intro p e s m args below meth c s₁ Bd hml0 hP hK
  obtain ⟨rfl, hZ, hh⟩ := hP
  exact H p e s m below meth c s₁ Bd.exec Bd.bytes hml0 (findClass_of_methodNamed Bd.named) (name_of_methodNamed Bd.named Bd.method).1 (BodyLoose.notSynchronized Bd) Bd.returns hZ (Stand.of_body Bd) (by rw [← hh, Bd.state]; rfl)
theorem own_back {Z : State} {a0 : Array Value} {h : Heap} {y : MethodName} {bytes : ByteArray} {maxL : Nat} {ret : Option FieldType} {rm : Room} {len W : Nat} {as' : Array Value} {Q : Option Value → Heap → List Loc → Prop} (hM : own_Met l Z y bytes maxL ret [] rm as' h Q)
    (hZ : Z.Warmed39 s.vm) (wc : (Jvm.Cond.code y bytes maxL ret).before a0 Z = true) (wz : (Jvm.Cond.initialized y.cls).before a0 Z = true) (hf : rm.frames + 1 ≤ R.frames) (hl : W + (maxL + 11) + rm.locals ≤ R.locals) :
    Back l R p e below s args y len W (fun A a => a = as' ∧ A.U.heap = h ∧ A.cells + rm.cells ≤ R.cells ∧ A.slots + rm.slots ≤ R.slots) (fun A _ v B => ∃ L, Q v B.U.heap L ∧ B.locs = A.locs ++ L ∧ B.cells = A.cells + rm.cells ∧ B.slots = A.slots + rm.slots) :=
  backOf (Q := Q) hM hZ wc wz hf hl
theorem own_xt {h0 h h' : Heap} (E : Ext h0 h) (F : Ext h h') : Ext h0 h' := ⟨Nat.le_trans E.1 F.1, fun a c q => F.2 a c (E.2 a c q)⟩
theorem own_xr (h : Heap) : Ext h h := ⟨Nat.le_refl _, fun _ _ q => q⟩
theorem own_xw {h0 h h' : Heap} {a : Addr} {sl : Nat} {v : Value} (E : Ext h0 h) (W : Wr h h' a sl v) (q : h0.size ≤ a) : Ext h0 h' := by
  have K := (Keep.of_wr W)
  exact ⟨Nat.le_trans E.1 K.1, fun x c r => K.2.1 x c (E.2 x c r) fun z => by
    cases List.mem_singleton.mp z
    exact absurd (Array.getElem?_eq_some_iff.mp r).1 (Nat.not_lt.mpr q)⟩
theorem own_fI {Z : State} {args : Array Value} {t : Term} {F fn fd : String} {a : Addr} {k : Int32} (ev : t.eval args Z none [] Z = some (.ref a)) (h : (Cond.eq (Term.field t F fn fd) (Term.int k)).value args Z none Z [] = some true) : Fld Z Z.heap a F fn fd (.int k) := by
  obtain ⟨x, y, h1, h2, h3, h4⟩ := cmp_v (Or.inl h)
  rw [fld_at ev] at h1
  cases (Term.int_eval k).symm.trans h2
  obtain ⟨z, rfl⟩ := h4
  have e1 : (Term.field t F fn fd).eval args Z none [] Z = some (.int z) := (fld_at ev).trans h1
  simp only [Cond.value, e1, Term.int_eval] at h
  have hz : z = k := by simpa using h
  subst hz
  exact Fld.start h1
theorem own_fJ {Z : State} {args : Array Value} {t : Term} {F fn fd : String} {a : Addr} {k : Int64} (ev : t.eval args Z none [] Z = some (.ref a)) (h : (Cond.eq (Term.field t F fn fd) (Term.long k)).value args Z none Z [] = some true) : Fld Z Z.heap a F fn fd (.long k) := by
  obtain ⟨x, y, h1, h2, h3, h4⟩ := cmp_v (Or.inl h)
  rw [fld_at ev] at h1
  cases (long_at k).symm.trans h2
  obtain ⟨z, rfl⟩ := h4
  have e1 : (Term.field t F fn fd).eval args Z none [] Z = some (.long z) := (fld_at ev).trans h1
  have hz := gotT (eq_L e1 (long_at k)) h
  subst hz
  exact Fld.start h1
theorem own_len {Z : State} {args : Array Value} {t : Term} {a : Addr} {cl : Cell} {ty : FieldType} {k : Int32} (ev : t.eval args Z none [] Z = some (.ref a)) (A : Arr Z Z.heap a cl ty) (h : (Cond.eq (Term.length t) (Term.int k)).value args Z none Z [] = some true) : cl.slots.size < 2 ^ 31 ∧ cl.slots.size.toInt32 = k := by
  have ha := Arr.fin (Vm.Alike.refl _) A
  obtain ⟨x, y, h1, h2, h3, h4⟩ := cmp_v (Or.inl h)
  by_cases hl : cl.slots.size < 2 ^ 31
  · have e1 := len_f (o := none) (idx := []) (first := Z) (args := args) ev ha hl
    simp only [Cond.value, e1, Term.int_eval] at h
    exact ⟨hl, by simpa using h⟩
  · simp [Term.eval, ev, ha, hl] at h1
theorem own_elV {Z : State} {args : Array Value} {t u : Term} {a : Addr} {cl : Cell} {k : Int32} {v : Value} {i : Nat} (ev : t.eval args Z none [] Z = some (.ref a)) (hc : Z.heap[a]? = some cl) (hu : u.eval args Z none [] Z = some v) (h : (Cond.eq (Term.elem t (Term.int k)) u).value args Z none Z [] = some true) (hk : k.toNatClampNeg = i) : cl.slots[i]? = some v := by
  obtain ⟨x, y, h1, h2, h3, h4⟩ := cmp_v (Or.inl h)
  cases hu.symm.trans h2
  have q := (elem_in h1 ev (Term.int_eval k) hc).2
  rw [hk] at q
  rw [q]
  simp only [Cond.value, h1, hu] at h
  cases x <;> cases v <;> simp_all [Kin, Value.isRef]
theorem own_ne {Z : State} {h : Heap} {a b : Addr} {C n d : String} {k j : Int32} (F : Fld Z h a C n d (.int k)) (G : Fld Z h b C n d (.int j)) (q : k ≠ j) : a ≠ b := Fld.ne F G (fun e => q (Value.int.inj e))
theorem own_rem {x n : Int32} (h0 : 0 ≤ x.toInt) (h1 : 0 < n.toInt) : 0 ≤ (x % n).toInt ∧ (x % n).toInt < n.toInt := by
  have := (c_iremV x n).1 h0 h1; exact ⟨this.1, this.2.1⟩
theorem own_msk (x : Int32) : 0 ≤ (x &&& (2147483647 : Int32)).toInt := (c_and x 2147483647 (by decide)).1
end OwnKit
def own_W (Z : State) (A : Nat → Addr) : Prop := Sta Z Z.heap "com/example/sinq/sinq/broker/Retention" "NONE" "Lcom/example/sinq/sinq/broker/Retention;" (.ref (A 0)) ∧ Exa Z Z.heap (A 0) "com/example/sinq/sinq/broker/Retention" ∧ Fld Z Z.heap (A 0) "com/example/sinq/sinq/broker/Retention" "maxAgeMillis" "J" (.long (9223372036854775807 : Int64)) ∧ Fld Z Z.heap (A 0) "com/example/sinq/sinq/broker/Retention" "maxBytes" "J" (.long (9223372036854775807 : Int64))
theorem ef_0 (m : MethodId) (x0 : Int64) (x1 : Int64) : entryFrame m #[(.long x0), (.long x1)] 4 = mkF m 0 #[.val (.long x0), .second, .val (.long x1), .second] [] := by first | (simp [entryFrame, mkF, argsToLocals, Value.category]; done) | rfl
theorem d0_0 : decode jdk_29_method_66_code 0 = .ok (.lload_n 0, 1) := by decide +kernel
theorem d0_1 : decode jdk_29_method_66_code 1 = .ok (.lload_n 2, 1) := by decide +kernel
theorem d0_2 : decode jdk_29_method_66_code 2 = .ok (.lcmp, 1) := by decide +kernel
theorem d0_3 : decode jdk_29_method_66_code 3 = .ok (.ifCond .lt 7, 3) := by decide +kernel
theorem d0_10 : decode jdk_29_method_66_code 10 = .ok (.lload_n 2, 1) := by decide +kernel
theorem d0_11 : decode jdk_29_method_66_code 11 = .ok (.lreturn, 1) := by decide +kernel
theorem d0_6 : decode jdk_29_method_66_code 6 = .ok (.lload_n 0, 1) := by decide +kernel
theorem d0_7 : decode jdk_29_method_66_code 7 = .ok (.goto 4, 3) := by decide +kernel
theorem pn_0 : plainName "java/lang/Record" = true := by first | (simp [plainName, overriddenIn]; done) | decide +kernel
theorem ef_1 (m : MethodId) (x0 : Addr) : entryFrame m #[(.ref x0)] 1 = mkF m 0 #[.val (.ref x0)] [] := by first | (simp [entryFrame, mkF, argsToLocals, Value.category]; done) | rfl
theorem d1_0 : decode jdk_30_method_1_code 0 = .ok (.aload_n 0, 1) := by decide +kernel
theorem d1_1 : decode jdk_30_method_1_code 1 = .ok (.invokespecial 1, 3) := by decide +kernel
theorem d1_4 : decode jdk_30_method_1_code 4 = .ok (.return_, 1) := by decide +kernel
theorem pn_1 : plainName "com/example/sinq/sinq/broker/Retention" = true := by first | (simp [plainName, overriddenIn]; done) | decide +kernel
theorem ef_2 (m : MethodId) (x0 : Addr) (x1 : Int64) (x2 : Int64) : entryFrame m #[(.ref x0), (.long x1), (.long x2)] 5 = mkF m 0 #[.val (.ref x0), .val (.long x1), .second, .val (.long x2), .second] [] := by first | (simp [entryFrame, mkF, argsToLocals, Value.category]; done) | rfl
theorem d2_0 : decode prog_50_method_1_code 0 = .ok (.aload_n 0, 1) := by decide +kernel
theorem d2_1 : decode prog_50_method_1_code 1 = .ok (.invokespecial 3, 3) := by decide +kernel
theorem pd_0 : parseMethodDescriptor "()V" = some ⟨[], none⟩ := by decide +kernel
theorem d2_4 : decode prog_50_method_1_code 4 = .ok (.lload_n 1, 1) := by decide +kernel
theorem d2_5 : decode prog_50_method_1_code 5 = .ok (.lconst 1, 1) := by decide +kernel
theorem d2_6 : decode prog_50_method_1_code 6 = .ok (.lcmp, 1) := by decide +kernel
theorem d2_7 : decode prog_50_method_1_code 7 = .ok (.ifCond .ge 17, 3) := by decide +kernel
theorem d2_24 : decode prog_50_method_1_code 24 = .ok (.lload_n 3, 1) := by decide +kernel
theorem d2_25 : decode prog_50_method_1_code 25 = .ok (.ldc2_w 20, 3) := by decide +kernel
theorem d2_28 : decode prog_50_method_1_code 28 = .ok (.lcmp, 1) := by decide +kernel
theorem d2_29 : decode prog_50_method_1_code 29 = .ok (.ifCond .ge 17, 3) := by decide +kernel
theorem d2_46 : decode prog_50_method_1_code 46 = .ok (.aload_n 0, 1) := by decide +kernel
theorem d2_47 : decode prog_50_method_1_code 47 = .ok (.lload_n 1, 1) := by decide +kernel
theorem d2_48 : decode prog_50_method_1_code 48 = .ok (.putfield 23, 3) := by decide +kernel
theorem d2_51 : decode prog_50_method_1_code 51 = .ok (.aload_n 0, 1) := by decide +kernel
theorem d2_52 : decode prog_50_method_1_code 52 = .ok (.lload_n 3, 1) := by decide +kernel
theorem d2_53 : decode prog_50_method_1_code 53 = .ok (.putfield 27, 3) := by decide +kernel
theorem d2_56 : decode prog_50_method_1_code 56 = .ok (.return_, 1) := by decide +kernel
theorem ef_3 (m : MethodId) (x0 : Addr) : entryFrame m #[(.ref x0)] 1 = mkF m 0 #[.val (.ref x0)] [] := by first | (simp [entryFrame, mkF, argsToLocals, Value.category]; done) | rfl
theorem d3_0 : decode prog_50_method_2_code 0 = .ok (.aload_n 0, 1) := by decide +kernel
theorem d3_1 : decode prog_50_method_2_code 1 = .ok (.getfield 23, 3) := by decide +kernel
theorem d3_4 : decode prog_50_method_2_code 4 = .ok (.ldc2_w 32, 3) := by decide +kernel
theorem d3_7 : decode prog_50_method_2_code 7 = .ok (.lcmp, 1) := by decide +kernel
theorem d3_8 : decode prog_50_method_2_code 8 = .ok (.ifCond .ne 14, 3) := by decide +kernel
theorem d3_11 : decode prog_50_method_2_code 11 = .ok (.aload_n 0, 1) := by decide +kernel
theorem d3_12 : decode prog_50_method_2_code 12 = .ok (.getfield 27, 3) := by decide +kernel
theorem d3_15 : decode prog_50_method_2_code 15 = .ok (.ldc2_w 32, 3) := by decide +kernel
theorem d3_18 : decode prog_50_method_2_code 18 = .ok (.lcmp, 1) := by decide +kernel
theorem d3_19 : decode prog_50_method_2_code 19 = .ok (.ifCond .eq 7, 3) := by decide +kernel
theorem d3_26 : decode prog_50_method_2_code 26 = .ok (.iconst 0, 1) := by decide +kernel
theorem d3_27 : decode prog_50_method_2_code 27 = .ok (.ireturn, 1) := by decide +kernel
theorem d3_22 : decode prog_50_method_2_code 22 = .ok (.iconst 1, 1) := by decide +kernel
theorem d3_23 : decode prog_50_method_2_code 23 = .ok (.goto 4, 3) := by decide +kernel
theorem pn_2 : plainName "com/example/sinq/sinq/broker/RetentionDeletesPinLaw" = true := by first | (simp [plainName, overriddenIn]; done) | decide +kernel
theorem ef_4 (m : MethodId) (x0 : Int64) (x1 : Int64) (x2 : Int32) : entryFrame m #[(.long x0), (.long x1), (.int x2)] maxLocals = mkF m 0 #[.val (.long x0), .second, .val (.long x1), .second, .val (.int x2), .unset, .unset, .unset, .unset, .unset, .unset] [] := by first | (simp [entryFrame, mkF, argsToLocals, Value.category, maxLocals]; done) | rfl
theorem pd_1 : parseMethodDescriptor "(JJ)J" = some ⟨[.long, .long], some .long⟩ := by decide +kernel
theorem pd_2 : parseMethodDescriptor "(JJ)V" = some ⟨[.long, .long], none⟩ := by decide +kernel
theorem pd_3 : parseMethodDescriptor "()Z" = some ⟨[], some .boolean⟩ := by decide +kernel
def own_mx (u v : Int64) : Int64 := (if u < v then v else u)
theorem own_mxge (u v : Int64) : ¬ own_mx u v < u := by
  unfold own_mx; split
  · rename_i h; rw [Int64.lt_iff_toInt_lt] at *; omega
  · rw [Int64.lt_iff_toInt_lt]; omega
set_option maxRecDepth 65536 in
set_option maxHeartbeats 40000000 in
theorem rmM (l : Launch) (Z : State) (a0 : Array Value) (hw : ∀ d ∈ tables_1, d.before a0 Z = true) (ws : List Jvm.Cond) (u v : Int64)  (h0 : Heap) (x0 : Ext Z.heap h0)  :
    own_Met l Z (⟨"java/lang/Math", "max", "(JJ)J"⟩ : MethodName) jdk_29_method_66_code 4 (some .long) ws ({ frames := 0, cells := 0, slots := 0, locals := 0 } : Room) #[(.long u), (.long v)] h0 (fun v_ h_ L_ => v_ = some (.long (own_mx u v)) ∧ Fr Z.heap.size L_ ∧ h_ = h0) := by
  refine own_body (Jvm.Free.JP.mathPlain rfl (by decide +kernel)) fun p e s m below meth c s₁ hx hby hml hown hnm hlk hrt hZ X0 e0 => ?_
  have N0 := Fr.nil Z.heap.size
  refine own_go (B := s₁.setTop (mkF m 0 #[.val (.long u), .second, .val (.long v), .second] [])) (fun t k => castTop (ef_0 m u v) k) ?_
  refine own_go (B := s₁.setTop (mkF m 1 #[.val (.long u), .second, .val (.long v), .second] [(.long u)])) (fun _ k => XT.lloadN X0.here hx rfl (hb hby d0_0) rfl k) ?_
  refine own_go (B := s₁.setTop (mkF m 2 #[.val (.long u), .second, .val (.long v), .second] [(.long v), (.long u)])) (fun _ k => XT.lloadN X0.here hx rfl (hb hby d0_1) rfl k) ?_
  refine own_go (B := s₁.setTop (mkF m 3 #[.val (.long u), .second, .val (.long v), .second] [(.int (XT.cmpL u v))])) (fun _ k => XT.lcmp X0.here hx rfl (hb hby d0_2) rfl k) ?_
  by_cases hc31 : u < v
  · refine own_go (B := s₁.setTop (mkF m 10 #[.val (.long u), .second, .val (.long v), .second] [])) (fun _ k => XS.ifYes X0.here hx rfl (pc0 := 3) (pc' := 10) rfl (hb hby d0_3) rfl (XT.ll_lt_t hc31) (by decide) (by decide) k) ?_
    refine own_go (B := s₁.setTop (mkF m 11 #[.val (.long u), .second, .val (.long v), .second] [(.long v)])) (fun _ k => XT.lloadN X0.here hx rfl (hb hby d0_10) rfl k) ?_
    exact own_ret X0 hx (t := .long) hrt rfl (Or.inr (Or.inl ⟨rfl, rfl, _, rfl⟩)) (hb hby d0_11) hlk ⟨(congrArg (fun z => some (Value.long z)) (by unfold own_mx; rw [if_pos hc31] : v = own_mx u v)), N0, e0⟩ (by decide) (by decide)
  · refine own_go (B := s₁.setTop (mkF m 6 #[.val (.long u), .second, .val (.long v), .second] [])) (fun _ k => XS.ifNo X0.here hx rfl (hb hby d0_3) rfl (XT.ll_lt_f hc31) k) ?_
    refine own_go (B := s₁.setTop (mkF m 7 #[.val (.long u), .second, .val (.long v), .second] [(.long u)])) (fun _ k => XT.lloadN X0.here hx rfl (hb hby d0_6) rfl k) ?_
    refine own_go (B := s₁.setTop (mkF m 11 #[.val (.long u), .second, .val (.long v), .second] [(.long u)])) (fun _ k => XS.goto X0.here hx rfl (pc0 := 7) (pc' := 11) rfl (hb hby d0_7) (by decide) (by decide) k) ?_
    exact own_ret X0 hx (t := .long) hrt rfl (Or.inr (Or.inl ⟨rfl, rfl, _, rfl⟩)) (hb hby d0_11) hlk ⟨(congrArg (fun z => some (Value.long z)) (by unfold own_mx; rw [if_neg hc31] : u = own_mx u v)), N0, e0⟩ (by decide) (by decide)
set_option maxRecDepth 65536 in
set_option maxHeartbeats 40000000 in
theorem rmR (l : Launch) (Z : State) (a0 : Array Value) (hw : ∀ d ∈ tables_1, d.before a0 Z = true) (ws : List Jvm.Cond) (a : Addr) (h0 : Heap) (x0 : Ext Z.heap h0)  :
    own_Met l Z (⟨"java/lang/Record", "<init>", "()V"⟩ : MethodName) jdk_30_method_1_code 1 none ws ({ frames := 1, cells := 0, slots := 0, locals := 12 } : Room) #[(.ref a)] h0 (fun v h L => v = none ∧ Fr Z.heap.size L ∧ h = h0) := by
  refine own_body (plainFor_of_name pn_0) fun p e s m below meth c s₁ hx hby hml hown hnm hlk hrt hZ X0 e0 => ?_
  have N0 := Fr.nil Z.heap.size
  refine own_go (B := s₁.setTop (mkF m 0 #[.val (.ref a)] [])) (fun t k => castTop (ef_1 m a) k) ?_
  refine own_go (B := s₁.setTop (mkF m 1 #[.val (.ref a)] [(.ref a)])) (fun _ k => XS.aloadN X0.here hx rfl (hb hby d1_0) rfl rfl k) ?_
  obtain ⟨T1, X1, e1, st1⟩ := initO X0 hx hZ hown (hw _ (List.mem_of_getElem? (i := 17) rfl)) (hw _ (List.mem_of_getElem? (i := 18) rfl)) (hw _ (List.mem_of_getElem? (i := 19) rfl)) e0 (g := (mkF m 1 #[.val (.ref a)] [(.ref a)])) rfl (by rw [hml]; rfl) rfl (hb hby d1_1) (by decide) (W := 0) (by show 2 * 0 + _ ≤ _; exact Nat.le_of_eq rfl) (by decide)
  refine own_go (B := T1.setTop (mkF m 4 #[.val (.ref a)] [])) st1 ?_
  exact own_retV X1 hx hrt (hb hby d1_4) hlk ⟨rfl, N0, e1⟩ (by decide) (by decide)
set_option maxRecDepth 65536 in
set_option maxHeartbeats 40000000 in
theorem rmI (l : Launch) (Z : State) (a0 : Array Value) (hw : ∀ d ∈ tables_1, d.before a0 Z = true) (ws : List Jvm.Cond) (b : Addr) (u v : Int64) (h0 : Heap) (x0 : Ext Z.heap h0) (qb : Z.heap.size ≤ b) (Eb : Exa Z h0 b "com/example/sinq/sinq/broker/Retention") (Fa : Fld Z h0 b "com/example/sinq/sinq/broker/Retention" "maxAgeMillis" "J" (.long (0 : Int64))) (Fb : Fld Z h0 b "com/example/sinq/sinq/broker/Retention" "maxBytes" "J" (.long (0 : Int64))) (k7 : ¬ u < (1 : Int64)) (k29 : ¬ v < (4096 : Int64)) :
    own_Met l Z (⟨"com/example/sinq/sinq/broker/Retention", "<init>", "(JJ)V"⟩ : MethodName) prog_50_method_1_code 5 none ws ({ frames := 2, cells := 0, slots := 0, locals := 24 } : Room) #[(.ref b), (.long u), (.long v)] h0 (fun v_ h L => v_ = none ∧ Fr Z.heap.size L ∧ Ext Z.heap h ∧ Exa Z h b "com/example/sinq/sinq/broker/Retention" ∧ Fld Z h b "com/example/sinq/sinq/broker/Retention" "maxAgeMillis" "J" (.long u) ∧ Fld Z h b "com/example/sinq/sinq/broker/Retention" "maxBytes" "J" (.long v)) := by
  refine own_body (plainFor_of_name pn_1) fun p e s m below meth c s₁ hx hby hml hown hnm hlk hrt hZ X0 e0 => ?_
  have N0 := Fr.nil Z.heap.size
  refine own_go (B := s₁.setTop (mkF m 0 #[.val (.ref b), .val (.long u), .second, .val (.long v), .second] [])) (fun t k => castTop (ef_2 m b u v) k) ?_
  refine own_go (B := s₁.setTop (mkF m 1 #[.val (.ref b), .val (.long u), .second, .val (.long v), .second] [(.ref b)])) (fun _ k => XS.aloadN X0.here hx rfl (hb hby d2_0) rfl rfl k) ?_
  obtain ⟨_, _, ⟨T1, L1, k1, n1⟩, -, X1, ⟨Lc1, hQ1, l1, y1, z1⟩, st1⟩ := X0.specialBack hx (y := (⟨"java/lang/Record", "<init>", "()V"⟩ : MethodName)) rfl hown (mvT hZ (hw _ (List.mem_of_getElem? (i := 12) rfl))) (mvT hZ (hw _ (List.mem_of_getElem? (i := 13) rfl))) (mvT hZ (hw _ (List.mem_of_getElem? (i := 16) rfl))) (by decide) (own_back (W := 0) (rmR l Z a0 hw [] b h0 x0) hZ (hw _ (List.mem_of_getElem? (i := 16) rfl)) (hw _ (List.mem_of_getElem? (i := 15) rfl)) (by decide) (by decide)) (g := (mkF m 1 #[.val (.ref b), .val (.long u), .second, .val (.long v), .second] [(.ref b)])) rfl (by rw [hml]; rfl) (Steps.refl _) (a := b) (argsL := []) (rest := []) (lenOf pd_0 rfl) rfl (by show 2 * 0 + _ ≤ _; exact Nat.le_of_eq rfl) (hb hby d2_1) (fun _ _ => ⟨rfl, e0, (by decide : 0 + 0 ≤ _), (by decide : 0 + 0 ≤ _)⟩)
  dsimp only [Pt.U, Pt.locs, Pt.cells, Pt.slots] at X1 l1 y1 z1 st1 hQ1
  subst l1 y1 z1
  obtain ⟨rfl, N1q, e1⟩ := hQ1
  have N1 := Fr.app N0 N1q
  refine own_go (B := T1.setTop (mkF m 4 #[.val (.ref b), .val (.long u), .second, .val (.long v), .second] [])) (fun _ k => st1.trans k) ?_
  refine own_go (B := T1.setTop (mkF m 5 #[.val (.ref b), .val (.long u), .second, .val (.long v), .second] [(.long u)])) (fun _ k => XT.lloadN X1.here hx rfl (hb hby d2_4) rfl k) ?_
  refine own_go (B := T1.setTop (mkF m 6 #[.val (.ref b), .val (.long u), .second, .val (.long v), .second] [(.long (1 : Int64)), (.long u)])) (fun _ k => XT.lconstV X1.here hx rfl (1 : Int64) (hb hby d2_5) rfl k) ?_
  refine own_go (B := T1.setTop (mkF m 7 #[.val (.ref b), .val (.long u), .second, .val (.long v), .second] [(.int (XT.cmpL u (1 : Int64)))])) (fun _ k => XT.lcmp X1.here hx rfl (hb hby d2_6) rfl k) ?_
  refine own_go (B := T1.setTop (mkF m 24 #[.val (.ref b), .val (.long u), .second, .val (.long v), .second] [])) (fun _ k => XS.ifYes X1.here hx rfl (pc0 := 7) (pc' := 24) rfl (hb hby d2_7) rfl (XT.ll_ge_t k7) (by decide) (by decide) k) ?_
  refine own_go (B := T1.setTop (mkF m 25 #[.val (.ref b), .val (.long u), .second, .val (.long v), .second] [(.long v)])) (fun _ k => XT.lloadN X1.here hx rfl (hb hby d2_24) rfl k) ?_
  refine own_go (B := T1.setTop (mkF m 28 #[.val (.ref b), .val (.long u), .second, .val (.long v), .second] [(.long (4096 : Int64)), (.long v)])) (fun _ k => Jvm.Stand.ldc2J X1 hx hown (mvT hZ (hw _ (List.mem_of_getElem? (i := 20) rfl))) (g := (mkF m 25 #[.val (.ref b), .val (.long u), .second, .val (.long v), .second] [(.long v)])) rfl (hb hby d2_25) k) ?_
  refine own_go (B := T1.setTop (mkF m 29 #[.val (.ref b), .val (.long u), .second, .val (.long v), .second] [(.int (XT.cmpL v (4096 : Int64)))])) (fun _ k => XT.lcmp X1.here hx rfl (hb hby d2_28) rfl k) ?_
  refine own_go (B := T1.setTop (mkF m 46 #[.val (.ref b), .val (.long u), .second, .val (.long v), .second] [])) (fun _ k => XS.ifYes X1.here hx rfl (pc0 := 29) (pc' := 46) rfl (hb hby d2_29) rfl (XT.ll_ge_t k29) (by decide) (by decide) k) ?_
  refine own_go (B := T1.setTop (mkF m 47 #[.val (.ref b), .val (.long u), .second, .val (.long v), .second] [(.ref b)])) (fun _ k => XS.aloadN X1.here hx rfl (hb hby d2_46) rfl rfl k) ?_
  refine own_go (B := T1.setTop (mkF m 48 #[.val (.ref b), .val (.long u), .second, .val (.long v), .second] [(.long u), (.ref b)])) (fun _ k => XT.lloadN X1.here hx rfl (hb hby d2_47) rfl k) ?_
  obtain ⟨T2, h2, X2, e2, W2, st2⟩ := putF X1 hx hZ hown (host := "") (Or.inl (hw _ (List.mem_of_getElem? (i := 21) rfl))) Via.refl e1 Fa Eb (Or.inr ⟨(hw _ (List.mem_of_getElem? (i := 22) rfl)), rfl, hnm⟩) (hw _ (List.mem_of_getElem? (i := 7) rfl)) (ty := .long) (by decide) rfl rfl (g := (mkF m 48 #[.val (.ref b), .val (.long u), .second, .val (.long v), .second] [(.long u), (.ref b)])) rfl rfl (hb hby d2_48)
  have F2 := Fld.same W2 Fa
  have x2 : Ext Z.heap h2 := own_xw x0 W2 qb
  have N2 := Fr.snoc X2 N1 qb
  refine own_go (B := T2.setTop (mkF m 51 #[.val (.ref b), .val (.long u), .second, .val (.long v), .second] [])) st2 ?_
  refine own_go (B := T2.setTop (mkF m 52 #[.val (.ref b), .val (.long u), .second, .val (.long v), .second] [(.ref b)])) (fun _ k => XS.aloadN X2.here hx rfl (hb hby d2_51) rfl rfl k) ?_
  refine own_go (B := T2.setTop (mkF m 53 #[.val (.ref b), .val (.long u), .second, .val (.long v), .second] [(.long v), (.ref b)])) (fun _ k => XT.lloadN X2.here hx rfl (hb hby d2_52) rfl k) ?_
  obtain ⟨T3, h3, X3, e3, W3, st3⟩ := putF X2 hx hZ hown (host := "") (Or.inl (hw _ (List.mem_of_getElem? (i := 23) rfl))) Via.refl e2 (Fb.other W2 (Or.inr (slot_ne (Or.inr (hw _ (List.mem_of_getElem? (i := 24) rfl))) (Or.inr (hw _ (List.mem_of_getElem? (i := 22) rfl))) (by decide) (t := .long) (t' := .long) (by decide) (by decide)))) (Eb.wr W2) (Or.inr ⟨(hw _ (List.mem_of_getElem? (i := 24) rfl)), rfl, hnm⟩) (hw _ (List.mem_of_getElem? (i := 7) rfl)) (ty := .long) (by decide) rfl rfl (g := (mkF m 53 #[.val (.ref b), .val (.long u), .second, .val (.long v), .second] [(.long v), (.ref b)])) rfl rfl (hb hby d2_53)
  have F3 := Fld.same W3 (Fb.other W2 (Or.inr (slot_ne (Or.inr (hw _ (List.mem_of_getElem? (i := 24) rfl))) (Or.inr (hw _ (List.mem_of_getElem? (i := 22) rfl))) (by decide) (t := .long) (t' := .long) (by decide) (by decide))))
  have x3 : Ext Z.heap h3 := own_xw x2 W3 qb
  have N3 := Fr.snoc X3 N2 qb
  refine own_go (B := T3.setTop (mkF m 56 #[.val (.ref b), .val (.long u), .second, .val (.long v), .second] [])) st3 ?_
  exact own_retV X3 hx hrt (hb hby d2_56) hlk ⟨rfl, N3, by rw [e3]; exact x3, by rw [e3]; exact ((Eb.wr W2).wr W3), by rw [e3]; exact (F2.other W3 (Or.inr (slot_ne (Or.inr (hw _ (List.mem_of_getElem? (i := 22) rfl))) (Or.inr (hw _ (List.mem_of_getElem? (i := 24) rfl))) (by decide) (t := .long) (t' := .long) (by decide) (by decide)))), by rw [e3]; exact F3⟩ (by decide) (by decide)
def own_del (u v : Int64) : Int32 := (if u = (9223372036854775807 : Int64) then (if v = (9223372036854775807 : Int64) then (0 : Int32) else (1 : Int32)) else (1 : Int32))
set_option maxRecDepth 65536 in
set_option maxHeartbeats 40000000 in
theorem rmD (l : Launch) (Z : State) (a0 : Array Value) (hw : ∀ d ∈ tables_1, d.before a0 Z = true) (ws : List Jvm.Cond) (b : Addr) (u v : Int64) (h0 : Heap) (x0 : Ext Z.heap h0) (Fa : Fld Z h0 b "com/example/sinq/sinq/broker/Retention" "maxAgeMillis" "J" (.long u)) (Fb : Fld Z h0 b "com/example/sinq/sinq/broker/Retention" "maxBytes" "J" (.long v)) :
    own_Met l Z (⟨"com/example/sinq/sinq/broker/Retention", "deletes", "()Z"⟩ : MethodName) prog_50_method_2_code 1 (some .boolean) ws ({ frames := 0, cells := 0, slots := 0, locals := 0 } : Room) #[(.ref b)] h0 (fun v_ h_ L_ => v_ = some (.int (own_del u v)) ∧ Fr Z.heap.size L_ ∧ h_ = h0) := by
  refine own_body (plainFor_of_name pn_1) fun p e s m below meth c s₁ hx hby hml hown hnm hlk hrt hZ X0 e0 => ?_
  have N0 := Fr.nil Z.heap.size
  refine own_go (B := s₁.setTop (mkF m 0 #[.val (.ref b)] [])) (fun t k => castTop (ef_3 m b) k) ?_
  refine own_go (B := s₁.setTop (mkF m 1 #[.val (.ref b)] [(.ref b)])) (fun _ k => XS.aloadN X0.here hx rfl (hb hby d3_0) rfl rfl k) ?_
  obtain ⟨T1, X1, e1, st1⟩ := getF X0 hx hZ hown (host := "") (Or.inl (hw _ (List.mem_of_getElem? (i := 21) rfl))) Via.refl e0 Fa (g := (mkF m 1 #[.val (.ref b)] [(.ref b)])) rfl rfl (hb hby d3_1)
  refine own_go (B := T1.setTop (mkF m 4 #[.val (.ref b)] [(.long u)])) st1 ?_
  refine own_go (B := T1.setTop (mkF m 7 #[.val (.ref b)] [(.long (9223372036854775807 : Int64)), (.long u)])) (fun _ k => Jvm.Stand.ldc2J X1 hx hown (mvT hZ (hw _ (List.mem_of_getElem? (i := 30) rfl))) (g := (mkF m 4 #[.val (.ref b)] [(.long u)])) rfl (hb hby d3_4) k) ?_
  refine own_go (B := T1.setTop (mkF m 8 #[.val (.ref b)] [(.int (XT.cmpL u (9223372036854775807 : Int64)))])) (fun _ k => XT.lcmp X1.here hx rfl (hb hby d3_7) rfl k) ?_
  by_cases hc82 : u = (9223372036854775807 : Int64)
  · refine own_go (B := T1.setTop (mkF m 11 #[.val (.ref b)] [])) (fun _ k => XS.ifNo X1.here hx rfl (hb hby d3_8) rfl (XT.ll_ne_f hc82) k) ?_
    refine own_go (B := T1.setTop (mkF m 12 #[.val (.ref b)] [(.ref b)])) (fun _ k => XS.aloadN X1.here hx rfl (hb hby d3_11) rfl rfl k) ?_
    obtain ⟨T3, X3, e3, st3⟩ := getF X1 hx hZ hown (host := "") (Or.inl (hw _ (List.mem_of_getElem? (i := 23) rfl))) Via.refl e1 Fb (g := (mkF m 12 #[.val (.ref b)] [(.ref b)])) rfl rfl (hb hby d3_12)
    refine own_go (B := T3.setTop (mkF m 15 #[.val (.ref b)] [(.long v)])) st3 ?_
    refine own_go (B := T3.setTop (mkF m 18 #[.val (.ref b)] [(.long (9223372036854775807 : Int64)), (.long v)])) (fun _ k => Jvm.Stand.ldc2J X3 hx hown (mvT hZ (hw _ (List.mem_of_getElem? (i := 30) rfl))) (g := (mkF m 15 #[.val (.ref b)] [(.long v)])) rfl (hb hby d3_15) k) ?_
    refine own_go (B := T3.setTop (mkF m 19 #[.val (.ref b)] [(.int (XT.cmpL v (9223372036854775807 : Int64)))])) (fun _ k => XT.lcmp X3.here hx rfl (hb hby d3_18) rfl k) ?_
    by_cases hc194 : v = (9223372036854775807 : Int64)
    · refine own_go (B := T3.setTop (mkF m 26 #[.val (.ref b)] [])) (fun _ k => XS.ifYes X3.here hx rfl (pc0 := 19) (pc' := 26) rfl (hb hby d3_19) rfl (XT.ll_eq_t hc194) (by decide) (by decide) k) ?_
      refine own_go (B := T3.setTop (mkF m 27 #[.val (.ref b)] [(.int (0 : Int32))])) (fun _ k => XT.iconstV X3.here hx rfl (0 : Int32) (hb hby d3_26) rfl k) ?_
      exact own_ret X3 hx (t := .boolean) hrt rfl (Or.inl ⟨rfl, by simp, _, rfl⟩) (hb hby d3_27) hlk ⟨(congrArg (fun z => some (Value.int z)) (by unfold own_del; rw [if_pos hc82, if_pos hc194] : (0 : Int32) = own_del u v)), N0, e3⟩ (by decide) (by decide)
    · refine own_go (B := T3.setTop (mkF m 22 #[.val (.ref b)] [])) (fun _ k => XS.ifNo X3.here hx rfl (hb hby d3_19) rfl (XT.ll_eq_f hc194) k) ?_
      refine own_go (B := T3.setTop (mkF m 23 #[.val (.ref b)] [(.int (1 : Int32))])) (fun _ k => XT.iconstV X3.here hx rfl (1 : Int32) (hb hby d3_22) rfl k) ?_
      refine own_go (B := T3.setTop (mkF m 27 #[.val (.ref b)] [(.int (1 : Int32))])) (fun _ k => XS.goto X3.here hx rfl (pc0 := 23) (pc' := 27) rfl (hb hby d3_23) (by decide) (by decide) k) ?_
      exact own_ret X3 hx (t := .boolean) hrt rfl (Or.inl ⟨rfl, by simp, _, rfl⟩) (hb hby d3_27) hlk ⟨(congrArg (fun z => some (Value.int z)) (by unfold own_del; rw [if_pos hc82, if_neg hc194] : (1 : Int32) = own_del u v)), N0, e3⟩ (by decide) (by decide)
  · refine own_go (B := T1.setTop (mkF m 22 #[.val (.ref b)] [])) (fun _ k => XS.ifYes X1.here hx rfl (pc0 := 8) (pc' := 22) rfl (hb hby d3_8) rfl (XT.ll_ne_t hc82) (by decide) (by decide) k) ?_
    refine own_go (B := T1.setTop (mkF m 23 #[.val (.ref b)] [(.int (1 : Int32))])) (fun _ k => XT.iconstV X1.here hx rfl (1 : Int32) (hb hby d3_22) rfl k) ?_
    refine own_go (B := T1.setTop (mkF m 27 #[.val (.ref b)] [(.int (1 : Int32))])) (fun _ k => XS.goto X1.here hx rfl (pc0 := 23) (pc' := 27) rfl (hb hby d3_23) (by decide) (by decide) k) ?_
    exact own_ret X1 hx (t := .boolean) hrt rfl (Or.inl ⟨rfl, by simp, _, rfl⟩) (hb hby d3_27) hlk ⟨(congrArg (fun z => some (Value.int z)) (by unfold own_del; rw [if_neg hc82] : (1 : Int32) = own_del u v)), N0, e1⟩ (by decide) (by decide)
set_option maxRecDepth 65536 in
set_option maxHeartbeats 40000000 in
theorem rm0 (l : Launch) (Z : State) (a0 : Array Value) (hw : ∀ d ∈ tables_1, d.before a0 Z = true) (ws : List Jvm.Cond) (p0 p1 : Int64) (p2 : Int32) (A : Nat → Addr) (hW : own_W Z A) (h0 : Heap) (x0 : Ext Z.heap h0)  :
    own_Met l Z x code maxLocals ret ws room_1 #[(.long p0), (.long p1), (.int p2)] h0 (fun v_ h_ L_ => v_ = some (.int (1 : Int32)) ∧ Fr Z.heap.size L_) := by
  refine own_body (plainFor_of_name pn_2) fun p e s m below meth c s₁ hx hby hml hown hnm hlk hrt hZ X0 e0 => ?_
  have N0 := Fr.nil Z.heap.size
  have hW' := hW
  obtain ⟨S_NONE, E_NONE, F_NONE_maxAgeMillis, F_NONE_maxBytes⟩ := hW'
  refine own_go (B := s₁.setTop (mkF m 0 #[.val (.long p0), .second, .val (.long p1), .second, .val (.int p2), .unset, .unset, .unset, .unset, .unset, .unset] [])) (fun t k => castTop (ef_4 m p0 p1 p2) k) ?_
  refine own_go (B := s₁.setTop (mkF m 1 #[.val (.long p0), .second, .val (.long p1), .second, .val (.int p2), .unset, .unset, .unset, .unset, .unset, .unset] [(.long (1 : Int64))])) (fun _ k => XT.lconstV X0.here hx rfl (1 : Int64) (hb hby at_0) rfl k) ?_
  refine own_go (B := s₁.setTop (mkF m 2 #[.val (.long p0), .second, .val (.long p1), .second, .val (.int p2), .unset, .unset, .unset, .unset, .unset, .unset] [(.long p0), (.long (1 : Int64))])) (fun _ k => XT.lloadN X0.here hx rfl (hb hby at_1) rfl k) ?_
  refine own_go (B := s₁.setTop (mkF m 5 #[.val (.long p0), .second, .val (.long p1), .second, .val (.int p2), .unset, .unset, .unset, .unset, .unset, .unset] [(.long (9223372036854775807 : Int64)), (.long p0), (.long (1 : Int64))])) (fun _ k => Jvm.Stand.ldc2J X0 hx hown (mvT hZ (hw _ (List.mem_of_getElem? (i := 0) rfl))) (g := (mkF m 2 #[.val (.long p0), .second, .val (.long p1), .second, .val (.int p2), .unset, .unset, .unset, .unset, .unset, .unset] [(.long p0), (.long (1 : Int64))])) rfl (hb hby at_2) k) ?_
  refine own_go (B := s₁.setTop (mkF m 6 #[.val (.long p0), .second, .val (.long p1), .second, .val (.int p2), .unset, .unset, .unset, .unset, .unset, .unset] [(.long (p0 &&& (9223372036854775807 : Int64))), (.long (1 : Int64))])) (fun _ k => XT.land X0.here hx rfl (hb hby at_5) rfl k) ?_
  obtain ⟨_, _, ⟨T1, L1, k1, n1⟩, -, X1, ⟨Lc1, hQ1, l1, y1, z1⟩, st1⟩ := Jvm.LawKit.callS X0 hx (y := (⟨"java/lang/Math", "max", "(JJ)J"⟩ : MethodName)) hown (mvT hZ (hw _ (List.mem_of_getElem? (i := 1) rfl))) (mvT hZ (hw _ (List.mem_of_getElem? (i := 2) rfl))) (mvT hZ (hw _ (List.mem_of_getElem? (i := 3) rfl))) (mvT hZ (hw _ (List.mem_of_getElem? (i := 4) rfl))) (by decide) (own_back (W := 0) (rmM l Z a0 hw [] (1 : Int64) (p0 &&& (9223372036854775807 : Int64)) h0 x0) hZ (hw _ (List.mem_of_getElem? (i := 4) rfl)) (hw _ (List.mem_of_getElem? (i := 3) rfl)) (by decide) (by decide)) (g := (mkF m 6 #[.val (.long p0), .second, .val (.long p1), .second, .val (.int p2), .unset, .unset, .unset, .unset, .unset, .unset] [(.long (p0 &&& (9223372036854775807 : Int64))), (.long (1 : Int64))])) rfl (by rw [hml]; rfl) (argsL := [(.long (1 : Int64)), (.long (p0 &&& (9223372036854775807 : Int64)))]) (rest := []) (lenOf pd_1 rfl) rfl (by show 2 * 0 + _ ≤ _; exact Nat.le_of_eq rfl) (hb hby at_6) (fun _ _ => ⟨rfl, e0, (by decide : 0 + 0 ≤ _), (by decide : 0 + 0 ≤ _)⟩)
  dsimp only [Pt.U, Pt.locs, Pt.cells, Pt.slots] at X1 l1 y1 z1 st1 hQ1
  subst l1 y1 z1
  obtain ⟨rfl, N1q, e1⟩ := hQ1
  have N1 := Fr.app N0 N1q
  refine own_go (B := T1.setTop (mkF m 9 #[.val (.long p0), .second, .val (.long p1), .second, .val (.int p2), .unset, .unset, .unset, .unset, .unset, .unset] [(.long (own_mx (1 : Int64) (p0 &&& (9223372036854775807 : Int64))))])) st1 ?_
  refine own_go (B := T1.setTop (mkF m 11 #[.val (.long p0), .second, .val (.long p1), .second, .val (.int p2), .val (.long (own_mx (1 : Int64) (p0 &&& (9223372036854775807 : Int64)))), .second, .unset, .unset, .unset, .unset] [])) (fun _ k => XT.lstore X1.here hx rfl (hb hby at_9) rfl (l' := #[.val (.long p0), .second, .val (.long p1), .second, .val (.int p2), .val (.long (own_mx (1 : Int64) (p0 &&& (9223372036854775807 : Int64)))), .second, .unset, .unset, .unset, .unset]) rfl k) ?_
  refine own_go (B := T1.setTop (mkF m 14 #[.val (.long p0), .second, .val (.long p1), .second, .val (.int p2), .val (.long (own_mx (1 : Int64) (p0 &&& (9223372036854775807 : Int64)))), .second, .unset, .unset, .unset, .unset] [(.long (4096 : Int64))])) (fun _ k => Jvm.Stand.ldc2J X1 hx hown (mvT hZ (hw _ (List.mem_of_getElem? (i := 5) rfl))) (g := (mkF m 11 #[.val (.long p0), .second, .val (.long p1), .second, .val (.int p2), .val (.long (own_mx (1 : Int64) (p0 &&& (9223372036854775807 : Int64)))), .second, .unset, .unset, .unset, .unset] [])) rfl (hb hby at_11) k) ?_
  refine own_go (B := T1.setTop (mkF m 15 #[.val (.long p0), .second, .val (.long p1), .second, .val (.int p2), .val (.long (own_mx (1 : Int64) (p0 &&& (9223372036854775807 : Int64)))), .second, .unset, .unset, .unset, .unset] [(.long p1), (.long (4096 : Int64))])) (fun _ k => XT.lloadN X1.here hx rfl (hb hby at_14) rfl k) ?_
  refine own_go (B := T1.setTop (mkF m 18 #[.val (.long p0), .second, .val (.long p1), .second, .val (.int p2), .val (.long (own_mx (1 : Int64) (p0 &&& (9223372036854775807 : Int64)))), .second, .unset, .unset, .unset, .unset] [(.long (9223372036854775807 : Int64)), (.long p1), (.long (4096 : Int64))])) (fun _ k => Jvm.Stand.ldc2J X1 hx hown (mvT hZ (hw _ (List.mem_of_getElem? (i := 0) rfl))) (g := (mkF m 15 #[.val (.long p0), .second, .val (.long p1), .second, .val (.int p2), .val (.long (own_mx (1 : Int64) (p0 &&& (9223372036854775807 : Int64)))), .second, .unset, .unset, .unset, .unset] [(.long p1), (.long (4096 : Int64))])) rfl (hb hby at_15) k) ?_
  refine own_go (B := T1.setTop (mkF m 19 #[.val (.long p0), .second, .val (.long p1), .second, .val (.int p2), .val (.long (own_mx (1 : Int64) (p0 &&& (9223372036854775807 : Int64)))), .second, .unset, .unset, .unset, .unset] [(.long (p1 &&& (9223372036854775807 : Int64))), (.long (4096 : Int64))])) (fun _ k => XT.land X1.here hx rfl (hb hby at_18) rfl k) ?_
  obtain ⟨_, _, ⟨T2, L2, k2, n2⟩, -, X2, ⟨Lc2, hQ2, l2, y2, z2⟩, st2⟩ := Jvm.LawKit.callS X1 hx (y := (⟨"java/lang/Math", "max", "(JJ)J"⟩ : MethodName)) hown (mvT hZ (hw _ (List.mem_of_getElem? (i := 1) rfl))) (mvT hZ (hw _ (List.mem_of_getElem? (i := 2) rfl))) (mvT hZ (hw _ (List.mem_of_getElem? (i := 3) rfl))) (mvT hZ (hw _ (List.mem_of_getElem? (i := 4) rfl))) (by decide) (own_back (W := 0) (rmM l Z a0 hw [] (4096 : Int64) (p1 &&& (9223372036854775807 : Int64)) h0 x0) hZ (hw _ (List.mem_of_getElem? (i := 4) rfl)) (hw _ (List.mem_of_getElem? (i := 3) rfl)) (by decide) (by decide)) (g := (mkF m 19 #[.val (.long p0), .second, .val (.long p1), .second, .val (.int p2), .val (.long (own_mx (1 : Int64) (p0 &&& (9223372036854775807 : Int64)))), .second, .unset, .unset, .unset, .unset] [(.long (p1 &&& (9223372036854775807 : Int64))), (.long (4096 : Int64))])) rfl (by rw [hml]; rfl) (argsL := [(.long (4096 : Int64)), (.long (p1 &&& (9223372036854775807 : Int64)))]) (rest := []) (lenOf pd_1 rfl) rfl (by show 2 * 0 + _ ≤ _; exact Nat.le_of_eq rfl) (hb hby at_19) (fun _ _ => ⟨rfl, e1, (by decide : 0 + 0 ≤ _), (by decide : 0 + 0 ≤ _)⟩)
  dsimp only [Pt.U, Pt.locs, Pt.cells, Pt.slots] at X2 l2 y2 z2 st2 hQ2
  subst l2 y2 z2
  obtain ⟨rfl, N2q, e2⟩ := hQ2
  have N2 := Fr.app N1 N2q
  refine own_go (B := T2.setTop (mkF m 22 #[.val (.long p0), .second, .val (.long p1), .second, .val (.int p2), .val (.long (own_mx (1 : Int64) (p0 &&& (9223372036854775807 : Int64)))), .second, .unset, .unset, .unset, .unset] [(.long (own_mx (4096 : Int64) (p1 &&& (9223372036854775807 : Int64))))])) st2 ?_
  refine own_go (B := T2.setTop (mkF m 24 #[.val (.long p0), .second, .val (.long p1), .second, .val (.int p2), .val (.long (own_mx (1 : Int64) (p0 &&& (9223372036854775807 : Int64)))), .second, .val (.long (own_mx (4096 : Int64) (p1 &&& (9223372036854775807 : Int64)))), .second, .unset, .unset] [])) (fun _ k => XT.lstore X2.here hx rfl (hb hby at_22) rfl (l' := #[.val (.long p0), .second, .val (.long p1), .second, .val (.int p2), .val (.long (own_mx (1 : Int64) (p0 &&& (9223372036854775807 : Int64)))), .second, .val (.long (own_mx (4096 : Int64) (p1 &&& (9223372036854775807 : Int64)))), .second, .unset, .unset]) rfl k) ?_
  obtain ⟨ag, hag⟩ : ∃ z : Int64, (own_mx (1 : Int64) (p0 &&& (9223372036854775807 : Int64))) = z := ⟨_, rfl⟩
  rw [hag]
  obtain ⟨by_, hby_⟩ : ∃ z : Int64, (own_mx (4096 : Int64) (p1 &&& (9223372036854775807 : Int64))) = z := ⟨_, rfl⟩
  rw [hby_]
  have hag : ¬ ag < (1 : Int64) := hag ▸ own_mxge _ _
  have hby_ : ¬ by_ < (4096 : Int64) := hby_ ▸ own_mxge _ _
  have tail : ∀ age bts : Int64, ¬ age < (1 : Int64) → ¬ bts < (4096 : Int64) → own_G p.tables e below s (fun v_ h_ L_ => v_ = some (.int (1 : Int32)) ∧ Fr Z.heap.size L_) room_1.cells room_1.slots (T2.setTop (mkF m 48 #[.val (.long p0), .second, .val (.long p1), .second, .val (.int p2), .val (.long age), .second, .val (.long bts), .second, .unset, .unset] [])) := by
    intro age bts ha hb_
    obtain ⟨T3, h3, X3, e3, E3, A3, D3, -, st3⟩ := newO X2 hx hZ hown (hw _ (List.mem_of_getElem? (i := 6) rfl)) (hw _ (List.mem_of_getElem? (i := 7) rfl)) (hw _ (List.mem_of_getElem? (i := 8) rfl)) e2 (g := (mkF m 48 #[.val (.long p0), .second, .val (.long p1), .second, .val (.int p2), .val (.long age), .second, .val (.long bts), .second, .unset, .unset] [])) rfl (hb hby at_48) (by decide) (by decide)
    obtain ⟨b3, g3⟩ : ∃ z, z = h0.size := ⟨_, rfl⟩
    rw [← g3] at A3 D3 st3
    have F3_maxAgeMillis : Fld Z h3 b3 "com/example/sinq/sinq/broker/Retention" "maxAgeMillis" "J" (.long (0 : Int64)) := D3 (Or.inr (hw _ (List.mem_of_getElem? (i := 22) rfl))) (ty := .long) (by decide)
    have F3_maxBytes : Fld Z h3 b3 "com/example/sinq/sinq/broker/Retention" "maxBytes" "J" (.long (0 : Int64)) := D3 (Or.inr (hw _ (List.mem_of_getElem? (i := 24) rfl))) (ty := .long) (by decide)
    have x3 : Ext Z.heap h3 := own_xt x0 E3
    have q3 : Z.heap.size ≤ b3 := Nat.le_trans x0.1 (Nat.le_of_eq g3.symm)
    refine own_go (B := T3.setTop (mkF m 51 #[.val (.long p0), .second, .val (.long p1), .second, .val (.int p2), .val (.long age), .second, .val (.long bts), .second, .unset, .unset] [(.ref b3)])) st3 ?_
    refine own_go (B := T3.setTop (mkF m 52 #[.val (.long p0), .second, .val (.long p1), .second, .val (.int p2), .val (.long age), .second, .val (.long bts), .second, .unset, .unset] [(.ref b3), (.ref b3)])) (fun _ k => XS.dup X3.here hx rfl (hb hby at_51) rfl rfl k) ?_
    refine own_go (B := T3.setTop (mkF m 54 #[.val (.long p0), .second, .val (.long p1), .second, .val (.int p2), .val (.long age), .second, .val (.long bts), .second, .unset, .unset] [(.long age), (.ref b3), (.ref b3)])) (fun _ k => XT.lload X3.here hx rfl (hb hby at_52) rfl k) ?_
    refine own_go (B := T3.setTop (mkF m 56 #[.val (.long p0), .second, .val (.long p1), .second, .val (.int p2), .val (.long age), .second, .val (.long bts), .second, .unset, .unset] [(.long bts), (.long age), (.ref b3), (.ref b3)])) (fun _ k => XT.lload X3.here hx rfl (hb hby at_54) rfl k) ?_
    obtain ⟨_, _, ⟨T4, L4, k4, n4⟩, -, X4, ⟨Lc4, hQ4, l4, y4, z4⟩, st4⟩ := X3.specialBack hx (y := (⟨"com/example/sinq/sinq/broker/Retention", "<init>", "(JJ)V"⟩ : MethodName)) rfl hown (mvT hZ (hw _ (List.mem_of_getElem? (i := 9) rfl))) (mvT hZ (hw _ (List.mem_of_getElem? (i := 10) rfl))) (mvT hZ (hw _ (List.mem_of_getElem? (i := 11) rfl))) (by decide) (own_back (W := 1) (rmI l Z a0 hw [] b3 age bts h3 x3 q3 A3 F3_maxAgeMillis F3_maxBytes ha hb_) hZ (hw _ (List.mem_of_getElem? (i := 11) rfl)) (hw _ (List.mem_of_getElem? (i := 8) rfl)) (by decide) (by decide)) (g := (mkF m 56 #[.val (.long p0), .second, .val (.long p1), .second, .val (.int p2), .val (.long age), .second, .val (.long bts), .second, .unset, .unset] [(.long bts), (.long age), (.ref b3), (.ref b3)])) rfl (by rw [hml]; rfl) (Steps.refl _) (a := b3) (argsL := [(.long age), (.long bts)]) (rest := [(.ref b3)]) (lenOf pd_2 rfl) rfl (by show 2 * 0 + _ ≤ _; exact Nat.le_of_eq rfl) (hb hby at_56) (fun _ _ => ⟨rfl, e3, (by decide : 1 + 0 ≤ _), (by decide : 2 + 0 ≤ _)⟩)
    dsimp only [Pt.U, Pt.locs, Pt.cells, Pt.slots] at X4 l4 y4 z4 st4 hQ4
    subst l4 y4 z4
    obtain ⟨rfl, N4q, x4, E4, Fa4, Fb4⟩ := hQ4
    have N4 := Fr.app N2 N4q
    refine own_go (B := T4.setTop (mkF m 59 #[.val (.long p0), .second, .val (.long p1), .second, .val (.int p2), .val (.long age), .second, .val (.long bts), .second, .unset, .unset] [(.ref b3)])) (fun _ k => st4.trans k) ?_
    refine own_go (B := T4.setTop (mkF m 61 #[.val (.long p0), .second, .val (.long p1), .second, .val (.int p2), .val (.long age), .second, .val (.long bts), .second, .val (.ref b3), .unset] [])) (fun _ k => XS.astore X4.here hx rfl (hb hby at_59) rfl rfl (l' := #[.val (.long p0), .second, .val (.long p1), .second, .val (.int p2), .val (.long age), .second, .val (.long bts), .second, .val (.ref b3), .unset]) rfl k) ?_
    refine own_go (B := T4.setTop (mkF m 63 #[.val (.long p0), .second, .val (.long p1), .second, .val (.int p2), .val (.long age), .second, .val (.long bts), .second, .val (.ref b3), .unset] [(.long age)])) (fun _ k => XT.lload X4.here hx rfl (hb hby at_61) rfl k) ?_
    refine own_go (B := T4.setTop (mkF m 66 #[.val (.long p0), .second, .val (.long p1), .second, .val (.int p2), .val (.long age), .second, .val (.long bts), .second, .val (.ref b3), .unset] [(.long (9223372036854775807 : Int64)), (.long age)])) (fun _ k => Jvm.Stand.ldc2J X4 hx hown (mvT hZ (hw _ (List.mem_of_getElem? (i := 0) rfl))) (g := (mkF m 63 #[.val (.long p0), .second, .val (.long p1), .second, .val (.int p2), .val (.long age), .second, .val (.long bts), .second, .val (.ref b3), .unset] [(.long age)])) rfl (hb hby at_63) k) ?_
    refine own_go (B := T4.setTop (mkF m 67 #[.val (.long p0), .second, .val (.long p1), .second, .val (.int p2), .val (.long age), .second, .val (.long bts), .second, .val (.ref b3), .unset] [(.int (XT.cmpL age (9223372036854775807 : Int64)))])) (fun _ k => XT.lcmp X4.here hx rfl (hb hby at_66) rfl k) ?_
    by_cases hc675 : age = (9223372036854775807 : Int64)
    · refine own_go (B := T4.setTop (mkF m 70 #[.val (.long p0), .second, .val (.long p1), .second, .val (.int p2), .val (.long age), .second, .val (.long bts), .second, .val (.ref b3), .unset] [])) (fun _ k => XS.ifNo X4.here hx rfl (hb hby at_67) rfl (XT.ll_ne_f hc675) k) ?_
      refine own_go (B := T4.setTop (mkF m 72 #[.val (.long p0), .second, .val (.long p1), .second, .val (.int p2), .val (.long age), .second, .val (.long bts), .second, .val (.ref b3), .unset] [(.long bts)])) (fun _ k => XT.lload X4.here hx rfl (hb hby at_70) rfl k) ?_
      refine own_go (B := T4.setTop (mkF m 75 #[.val (.long p0), .second, .val (.long p1), .second, .val (.int p2), .val (.long age), .second, .val (.long bts), .second, .val (.ref b3), .unset] [(.long (9223372036854775807 : Int64)), (.long bts)])) (fun _ k => Jvm.Stand.ldc2J X4 hx hown (mvT hZ (hw _ (List.mem_of_getElem? (i := 0) rfl))) (g := (mkF m 72 #[.val (.long p0), .second, .val (.long p1), .second, .val (.int p2), .val (.long age), .second, .val (.long bts), .second, .val (.ref b3), .unset] [(.long bts)])) rfl (hb hby at_72) k) ?_
      refine own_go (B := T4.setTop (mkF m 76 #[.val (.long p0), .second, .val (.long p1), .second, .val (.int p2), .val (.long age), .second, .val (.long bts), .second, .val (.ref b3), .unset] [(.int (XT.cmpL bts (9223372036854775807 : Int64)))])) (fun _ k => XT.lcmp X4.here hx rfl (hb hby at_75) rfl k) ?_
      by_cases hc766 : bts = (9223372036854775807 : Int64)
      · refine own_go (B := T4.setTop (mkF m 79 #[.val (.long p0), .second, .val (.long p1), .second, .val (.int p2), .val (.long age), .second, .val (.long bts), .second, .val (.ref b3), .unset] [])) (fun _ k => XS.ifNo X4.here hx rfl (hb hby at_76) rfl (XT.ll_ne_f hc766) k) ?_
        refine own_go (B := T4.setTop (mkF m 80 #[.val (.long p0), .second, .val (.long p1), .second, .val (.int p2), .val (.long age), .second, .val (.long bts), .second, .val (.ref b3), .unset] [(.int (0 : Int32))])) (fun _ k => XT.iconstV X4.here hx rfl (0 : Int32) (hb hby at_79) rfl k) ?_
        refine own_go (B := T4.setTop (mkF m 82 #[.val (.long p0), .second, .val (.long p1), .second, .val (.int p2), .val (.long age), .second, .val (.long bts), .second, .val (.ref b3), .val (.int (0 : Int32))] [])) (fun _ k => XS.istore X4.here hx rfl (hb hby at_80) rfl (l' := #[.val (.long p0), .second, .val (.long p1), .second, .val (.int p2), .val (.long age), .second, .val (.long bts), .second, .val (.ref b3), .val (.int (0 : Int32))]) rfl k) ?_
        refine own_go (B := T4.setTop (mkF m 94 #[.val (.long p0), .second, .val (.long p1), .second, .val (.int p2), .val (.long age), .second, .val (.long bts), .second, .val (.ref b3), .val (.int (0 : Int32))] [])) (fun _ k => XS.goto X4.here hx rfl (pc0 := 82) (pc' := 94) rfl (hb hby at_82) (by decide) (by decide) k) ?_
        refine own_go (B := T4.setTop (mkF m 96 #[.val (.long p0), .second, .val (.long p1), .second, .val (.int p2), .val (.long age), .second, .val (.long bts), .second, .val (.ref b3), .val (.int (0 : Int32))] [(.ref b3)])) (fun _ k => XS.aload X4.here hx rfl (hb hby at_94) rfl rfl k) ?_
        obtain ⟨cq7, kq7, q7a, q7b, q7c⟩ := isOf hZ rfl E4
        obtain ⟨_, _, ⟨T7, L7, k7, n7⟩, -, X7, ⟨Lc7, hQ7, l7, y7, z7⟩, st7⟩ := X4.virtualBack hx (y := (⟨"com/example/sinq/sinq/broker/Retention", "deletes", "()Z"⟩ : MethodName)) (z := (⟨"com/example/sinq/sinq/broker/Retention", "deletes", "()Z"⟩ : MethodName)) hown (mvT hZ (hw _ (List.mem_of_getElem? (i := 25) rfl))) (mvT hZ (hw _ (List.mem_of_getElem? (i := 26) rfl))) (notFace_of_selects (args := #[]) (mvT hZ (hw _ (List.mem_of_getElem? (i := 28) rfl)))) (mvT hZ (hw _ (List.mem_of_getElem? (i := 28) rfl))) (mvT hZ (hw _ (List.mem_of_getElem? (i := 27) rfl))) (by decide) (own_back (W := 0) (rmD l Z a0 hw [] b3 age bts T4.heap x4 Fa4 Fb4) hZ (hw _ (List.mem_of_getElem? (i := 29) rfl)) (hw _ (List.mem_of_getElem? (i := 8) rfl)) (by decide) (by decide)) q7a q7c (g := (mkF m 96 #[.val (.long p0), .second, .val (.long p1), .second, .val (.int p2), .val (.long age), .second, .val (.long bts), .second, .val (.ref b3), .val (.int (0 : Int32))] [(.ref b3)])) rfl (by rw [hml]; rfl) (Steps.refl _) (argsL := []) (rest := []) (lenOf pd_3 rfl) rfl (by show 2 * 0 + _ ≤ _; exact Nat.le_of_eq rfl) (hb hby at_96) (fun _ _ => ⟨rfl, rfl, (by decide : 1 + 0 ≤ _), (by decide : 2 + 0 ≤ _)⟩)
        dsimp only [Pt.U, Pt.locs, Pt.cells, Pt.slots] at X7 l7 y7 z7 st7 hQ7
        subst l7 y7 z7
        obtain ⟨rfl, N7q, e7⟩ := hQ7
        have N7 := Fr.app N4 N7q
        refine own_go (B := T7.setTop (mkF m 99 #[.val (.long p0), .second, .val (.long p1), .second, .val (.int p2), .val (.long age), .second, .val (.long bts), .second, .val (.ref b3), .val (.int (0 : Int32))] [(.int (own_del age bts))])) (fun _ k => st7.trans k) ?_
        refine own_go (B := T7.setTop (mkF m 101 #[.val (.long p0), .second, .val (.long p1), .second, .val (.int p2), .val (.long age), .second, .val (.long bts), .second, .val (.ref b3), .val (.int (0 : Int32))] [(.int (0 : Int32)), (.int (own_del age bts))])) (fun _ k => XS.iload X7.here hx rfl (hb hby at_99) rfl k) ?_
        refine own_go (B := T7.setTop (mkF m 104 #[.val (.long p0), .second, .val (.long p1), .second, .val (.int p2), .val (.long age), .second, .val (.long bts), .second, .val (.ref b3), .val (.int (0 : Int32))] [])) (fun _ k => XS.icmpNo X7.here hx rfl (hb hby at_101) rfl (teq (by unfold own_del; rw [if_pos hc675, if_pos hc766] : (own_del age bts) = (0 : Int32))).2 k) ?_
        obtain ⟨T8, X8, e8, st8⟩ := getS2 X7 hx hZ hown (host := "") (Or.inl (hw _ (List.mem_of_getElem? (i := 31) rfl))) Via.refl e7 (S_NONE.ext x4) (g := (mkF m 104 #[.val (.long p0), .second, .val (.long p1), .second, .val (.int p2), .val (.long age), .second, .val (.long bts), .second, .val (.ref b3), .val (.int (0 : Int32))] [])) rfl (hb hby at_104)
        refine own_go (B := T8.setTop (mkF m 107 #[.val (.long p0), .second, .val (.long p1), .second, .val (.int p2), .val (.long age), .second, .val (.long bts), .second, .val (.ref b3), .val (.int (0 : Int32))] [(.ref (A 0))])) st8 ?_
        obtain ⟨cq9, kq9, q9a, q9b, q9c⟩ := isOf hZ e8 (E_NONE.ext x4)
        obtain ⟨_, _, ⟨T9, L9, k9, n9⟩, -, X9, ⟨Lc9, hQ9, l9, y9, z9⟩, st9⟩ := X8.virtualBack hx (y := (⟨"com/example/sinq/sinq/broker/Retention", "deletes", "()Z"⟩ : MethodName)) (z := (⟨"com/example/sinq/sinq/broker/Retention", "deletes", "()Z"⟩ : MethodName)) hown (mvT hZ (hw _ (List.mem_of_getElem? (i := 25) rfl))) (mvT hZ (hw _ (List.mem_of_getElem? (i := 26) rfl))) (notFace_of_selects (args := #[]) (mvT hZ (hw _ (List.mem_of_getElem? (i := 28) rfl)))) (mvT hZ (hw _ (List.mem_of_getElem? (i := 28) rfl))) (mvT hZ (hw _ (List.mem_of_getElem? (i := 27) rfl))) (by decide) (own_back (W := 0) (rmD l Z a0 hw [] (A 0) (9223372036854775807 : Int64) (9223372036854775807 : Int64) T4.heap x4 (F_NONE_maxAgeMillis.ext x4) (F_NONE_maxBytes.ext x4)) hZ (hw _ (List.mem_of_getElem? (i := 29) rfl)) (hw _ (List.mem_of_getElem? (i := 8) rfl)) (by decide) (by decide)) q9a q9c (g := (mkF m 107 #[.val (.long p0), .second, .val (.long p1), .second, .val (.int p2), .val (.long age), .second, .val (.long bts), .second, .val (.ref b3), .val (.int (0 : Int32))] [(.ref (A 0))])) rfl (by rw [hml]; rfl) (Steps.refl _) (argsL := []) (rest := []) (lenOf pd_3 rfl) rfl (by show 2 * 0 + _ ≤ _; exact Nat.le_of_eq rfl) (hb hby at_107) (fun _ _ => ⟨rfl, e8, (by decide : 1 + 0 ≤ _), (by decide : 2 + 0 ≤ _)⟩)
        dsimp only [Pt.U, Pt.locs, Pt.cells, Pt.slots] at X9 l9 y9 z9 st9 hQ9
        subst l9 y9 z9
        obtain ⟨rfl, N9q, e9⟩ := hQ9
        have N9 := Fr.app N7 N9q
        refine own_go (B := T9.setTop (mkF m 110 #[.val (.long p0), .second, .val (.long p1), .second, .val (.int p2), .val (.long age), .second, .val (.long bts), .second, .val (.ref b3), .val (.int (0 : Int32))] [(.int (own_del (9223372036854775807 : Int64) (9223372036854775807 : Int64)))])) (fun _ k => st9.trans k) ?_
        refine own_go (B := T9.setTop (mkF m 113 #[.val (.long p0), .second, .val (.long p1), .second, .val (.int p2), .val (.long age), .second, .val (.long bts), .second, .val (.ref b3), .val (.int (0 : Int32))] [])) (fun _ k => XS.ifNo X9.here hx rfl (hb hby at_110) rfl (by decide +kernel) k) ?_
        refine own_go (B := T9.setTop (mkF m 114 #[.val (.long p0), .second, .val (.long p1), .second, .val (.int p2), .val (.long age), .second, .val (.long bts), .second, .val (.ref b3), .val (.int (0 : Int32))] [(.int (1 : Int32))])) (fun _ k => XT.iconstV X9.here hx rfl (1 : Int32) (hb hby at_113) rfl k) ?_
        refine own_go (B := T9.setTop (mkF m 118 #[.val (.long p0), .second, .val (.long p1), .second, .val (.int p2), .val (.long age), .second, .val (.long bts), .second, .val (.ref b3), .val (.int (0 : Int32))] [(.int (1 : Int32))])) (fun _ k => XS.goto X9.here hx rfl (pc0 := 114) (pc' := 118) rfl (hb hby at_114) (by decide) (by decide) k) ?_
        exact own_ret X9 hx (t := .boolean) hrt rfl (Or.inl ⟨rfl, by simp, _, rfl⟩) (hb hby at_118) hlk ⟨rfl, N9⟩ (by decide) (by decide)
      · refine own_go (B := T4.setTop (mkF m 85 #[.val (.long p0), .second, .val (.long p1), .second, .val (.int p2), .val (.long age), .second, .val (.long bts), .second, .val (.ref b3), .unset] [])) (fun _ k => XS.ifYes X4.here hx rfl (pc0 := 76) (pc' := 85) rfl (hb hby at_76) rfl (XT.ll_ne_t hc766) (by decide) (by decide) k) ?_
        refine own_go (B := T4.setTop (mkF m 86 #[.val (.long p0), .second, .val (.long p1), .second, .val (.int p2), .val (.long age), .second, .val (.long bts), .second, .val (.ref b3), .unset] [(.int (1 : Int32))])) (fun _ k => XT.iconstV X4.here hx rfl (1 : Int32) (hb hby at_85) rfl k) ?_
        refine own_go (B := T4.setTop (mkF m 88 #[.val (.long p0), .second, .val (.long p1), .second, .val (.int p2), .val (.long age), .second, .val (.long bts), .second, .val (.ref b3), .val (.int (1 : Int32))] [])) (fun _ k => XS.istore X4.here hx rfl (hb hby at_86) rfl (l' := #[.val (.long p0), .second, .val (.long p1), .second, .val (.int p2), .val (.long age), .second, .val (.long bts), .second, .val (.ref b3), .val (.int (1 : Int32))]) rfl k) ?_
        refine own_go (B := T4.setTop (mkF m 94 #[.val (.long p0), .second, .val (.long p1), .second, .val (.int p2), .val (.long age), .second, .val (.long bts), .second, .val (.ref b3), .val (.int (1 : Int32))] [])) (fun _ k => XS.goto X4.here hx rfl (pc0 := 88) (pc' := 94) rfl (hb hby at_88) (by decide) (by decide) k) ?_
        refine own_go (B := T4.setTop (mkF m 96 #[.val (.long p0), .second, .val (.long p1), .second, .val (.int p2), .val (.long age), .second, .val (.long bts), .second, .val (.ref b3), .val (.int (1 : Int32))] [(.ref b3)])) (fun _ k => XS.aload X4.here hx rfl (hb hby at_94) rfl rfl k) ?_
        obtain ⟨cq10, kq10, q10a, q10b, q10c⟩ := isOf hZ rfl E4
        obtain ⟨_, _, ⟨T10, L10, k10, n10⟩, -, X10, ⟨Lc10, hQ10, l10, y10, z10⟩, st10⟩ := X4.virtualBack hx (y := (⟨"com/example/sinq/sinq/broker/Retention", "deletes", "()Z"⟩ : MethodName)) (z := (⟨"com/example/sinq/sinq/broker/Retention", "deletes", "()Z"⟩ : MethodName)) hown (mvT hZ (hw _ (List.mem_of_getElem? (i := 25) rfl))) (mvT hZ (hw _ (List.mem_of_getElem? (i := 26) rfl))) (notFace_of_selects (args := #[]) (mvT hZ (hw _ (List.mem_of_getElem? (i := 28) rfl)))) (mvT hZ (hw _ (List.mem_of_getElem? (i := 28) rfl))) (mvT hZ (hw _ (List.mem_of_getElem? (i := 27) rfl))) (by decide) (own_back (W := 0) (rmD l Z a0 hw [] b3 age bts T4.heap x4 Fa4 Fb4) hZ (hw _ (List.mem_of_getElem? (i := 29) rfl)) (hw _ (List.mem_of_getElem? (i := 8) rfl)) (by decide) (by decide)) q10a q10c (g := (mkF m 96 #[.val (.long p0), .second, .val (.long p1), .second, .val (.int p2), .val (.long age), .second, .val (.long bts), .second, .val (.ref b3), .val (.int (1 : Int32))] [(.ref b3)])) rfl (by rw [hml]; rfl) (Steps.refl _) (argsL := []) (rest := []) (lenOf pd_3 rfl) rfl (by show 2 * 0 + _ ≤ _; exact Nat.le_of_eq rfl) (hb hby at_96) (fun _ _ => ⟨rfl, rfl, (by decide : 1 + 0 ≤ _), (by decide : 2 + 0 ≤ _)⟩)
        dsimp only [Pt.U, Pt.locs, Pt.cells, Pt.slots] at X10 l10 y10 z10 st10 hQ10
        subst l10 y10 z10
        obtain ⟨rfl, N10q, e10⟩ := hQ10
        have N10 := Fr.app N4 N10q
        refine own_go (B := T10.setTop (mkF m 99 #[.val (.long p0), .second, .val (.long p1), .second, .val (.int p2), .val (.long age), .second, .val (.long bts), .second, .val (.ref b3), .val (.int (1 : Int32))] [(.int (own_del age bts))])) (fun _ k => st10.trans k) ?_
        refine own_go (B := T10.setTop (mkF m 101 #[.val (.long p0), .second, .val (.long p1), .second, .val (.int p2), .val (.long age), .second, .val (.long bts), .second, .val (.ref b3), .val (.int (1 : Int32))] [(.int (1 : Int32)), (.int (own_del age bts))])) (fun _ k => XS.iload X10.here hx rfl (hb hby at_99) rfl k) ?_
        refine own_go (B := T10.setTop (mkF m 104 #[.val (.long p0), .second, .val (.long p1), .second, .val (.int p2), .val (.long age), .second, .val (.long bts), .second, .val (.ref b3), .val (.int (1 : Int32))] [])) (fun _ k => XS.icmpNo X10.here hx rfl (hb hby at_101) rfl (teq (by unfold own_del; rw [if_pos hc675, if_neg hc766] : (own_del age bts) = (1 : Int32))).2 k) ?_
        obtain ⟨T11, X11, e11, st11⟩ := getS2 X10 hx hZ hown (host := "") (Or.inl (hw _ (List.mem_of_getElem? (i := 31) rfl))) Via.refl e10 (S_NONE.ext x4) (g := (mkF m 104 #[.val (.long p0), .second, .val (.long p1), .second, .val (.int p2), .val (.long age), .second, .val (.long bts), .second, .val (.ref b3), .val (.int (1 : Int32))] [])) rfl (hb hby at_104)
        refine own_go (B := T11.setTop (mkF m 107 #[.val (.long p0), .second, .val (.long p1), .second, .val (.int p2), .val (.long age), .second, .val (.long bts), .second, .val (.ref b3), .val (.int (1 : Int32))] [(.ref (A 0))])) st11 ?_
        obtain ⟨cq12, kq12, q12a, q12b, q12c⟩ := isOf hZ e11 (E_NONE.ext x4)
        obtain ⟨_, _, ⟨T12, L12, k12, n12⟩, -, X12, ⟨Lc12, hQ12, l12, y12, z12⟩, st12⟩ := X11.virtualBack hx (y := (⟨"com/example/sinq/sinq/broker/Retention", "deletes", "()Z"⟩ : MethodName)) (z := (⟨"com/example/sinq/sinq/broker/Retention", "deletes", "()Z"⟩ : MethodName)) hown (mvT hZ (hw _ (List.mem_of_getElem? (i := 25) rfl))) (mvT hZ (hw _ (List.mem_of_getElem? (i := 26) rfl))) (notFace_of_selects (args := #[]) (mvT hZ (hw _ (List.mem_of_getElem? (i := 28) rfl)))) (mvT hZ (hw _ (List.mem_of_getElem? (i := 28) rfl))) (mvT hZ (hw _ (List.mem_of_getElem? (i := 27) rfl))) (by decide) (own_back (W := 0) (rmD l Z a0 hw [] (A 0) (9223372036854775807 : Int64) (9223372036854775807 : Int64) T4.heap x4 (F_NONE_maxAgeMillis.ext x4) (F_NONE_maxBytes.ext x4)) hZ (hw _ (List.mem_of_getElem? (i := 29) rfl)) (hw _ (List.mem_of_getElem? (i := 8) rfl)) (by decide) (by decide)) q12a q12c (g := (mkF m 107 #[.val (.long p0), .second, .val (.long p1), .second, .val (.int p2), .val (.long age), .second, .val (.long bts), .second, .val (.ref b3), .val (.int (1 : Int32))] [(.ref (A 0))])) rfl (by rw [hml]; rfl) (Steps.refl _) (argsL := []) (rest := []) (lenOf pd_3 rfl) rfl (by show 2 * 0 + _ ≤ _; exact Nat.le_of_eq rfl) (hb hby at_107) (fun _ _ => ⟨rfl, e11, (by decide : 1 + 0 ≤ _), (by decide : 2 + 0 ≤ _)⟩)
        dsimp only [Pt.U, Pt.locs, Pt.cells, Pt.slots] at X12 l12 y12 z12 st12 hQ12
        subst l12 y12 z12
        obtain ⟨rfl, N12q, e12⟩ := hQ12
        have N12 := Fr.app N10 N12q
        refine own_go (B := T12.setTop (mkF m 110 #[.val (.long p0), .second, .val (.long p1), .second, .val (.int p2), .val (.long age), .second, .val (.long bts), .second, .val (.ref b3), .val (.int (1 : Int32))] [(.int (own_del (9223372036854775807 : Int64) (9223372036854775807 : Int64)))])) (fun _ k => st12.trans k) ?_
        refine own_go (B := T12.setTop (mkF m 113 #[.val (.long p0), .second, .val (.long p1), .second, .val (.int p2), .val (.long age), .second, .val (.long bts), .second, .val (.ref b3), .val (.int (1 : Int32))] [])) (fun _ k => XS.ifNo X12.here hx rfl (hb hby at_110) rfl (by decide +kernel) k) ?_
        refine own_go (B := T12.setTop (mkF m 114 #[.val (.long p0), .second, .val (.long p1), .second, .val (.int p2), .val (.long age), .second, .val (.long bts), .second, .val (.ref b3), .val (.int (1 : Int32))] [(.int (1 : Int32))])) (fun _ k => XT.iconstV X12.here hx rfl (1 : Int32) (hb hby at_113) rfl k) ?_
        refine own_go (B := T12.setTop (mkF m 118 #[.val (.long p0), .second, .val (.long p1), .second, .val (.int p2), .val (.long age), .second, .val (.long bts), .second, .val (.ref b3), .val (.int (1 : Int32))] [(.int (1 : Int32))])) (fun _ k => XS.goto X12.here hx rfl (pc0 := 114) (pc' := 118) rfl (hb hby at_114) (by decide) (by decide) k) ?_
        exact own_ret X12 hx (t := .boolean) hrt rfl (Or.inl ⟨rfl, by simp, _, rfl⟩) (hb hby at_118) hlk ⟨rfl, N12⟩ (by decide) (by decide)
    · refine own_go (B := T4.setTop (mkF m 91 #[.val (.long p0), .second, .val (.long p1), .second, .val (.int p2), .val (.long age), .second, .val (.long bts), .second, .val (.ref b3), .unset] [])) (fun _ k => XS.ifYes X4.here hx rfl (pc0 := 67) (pc' := 91) rfl (hb hby at_67) rfl (XT.ll_ne_t hc675) (by decide) (by decide) k) ?_
      refine own_go (B := T4.setTop (mkF m 92 #[.val (.long p0), .second, .val (.long p1), .second, .val (.int p2), .val (.long age), .second, .val (.long bts), .second, .val (.ref b3), .unset] [(.int (1 : Int32))])) (fun _ k => XT.iconstV X4.here hx rfl (1 : Int32) (hb hby at_91) rfl k) ?_
      refine own_go (B := T4.setTop (mkF m 94 #[.val (.long p0), .second, .val (.long p1), .second, .val (.int p2), .val (.long age), .second, .val (.long bts), .second, .val (.ref b3), .val (.int (1 : Int32))] [])) (fun _ k => XS.istore X4.here hx rfl (hb hby at_92) rfl (l' := #[.val (.long p0), .second, .val (.long p1), .second, .val (.int p2), .val (.long age), .second, .val (.long bts), .second, .val (.ref b3), .val (.int (1 : Int32))]) rfl k) ?_
      refine own_go (B := T4.setTop (mkF m 96 #[.val (.long p0), .second, .val (.long p1), .second, .val (.int p2), .val (.long age), .second, .val (.long bts), .second, .val (.ref b3), .val (.int (1 : Int32))] [(.ref b3)])) (fun _ k => XS.aload X4.here hx rfl (hb hby at_94) rfl rfl k) ?_
      obtain ⟨cq13, kq13, q13a, q13b, q13c⟩ := isOf hZ rfl E4
      obtain ⟨_, _, ⟨T13, L13, k13, n13⟩, -, X13, ⟨Lc13, hQ13, l13, y13, z13⟩, st13⟩ := X4.virtualBack hx (y := (⟨"com/example/sinq/sinq/broker/Retention", "deletes", "()Z"⟩ : MethodName)) (z := (⟨"com/example/sinq/sinq/broker/Retention", "deletes", "()Z"⟩ : MethodName)) hown (mvT hZ (hw _ (List.mem_of_getElem? (i := 25) rfl))) (mvT hZ (hw _ (List.mem_of_getElem? (i := 26) rfl))) (notFace_of_selects (args := #[]) (mvT hZ (hw _ (List.mem_of_getElem? (i := 28) rfl)))) (mvT hZ (hw _ (List.mem_of_getElem? (i := 28) rfl))) (mvT hZ (hw _ (List.mem_of_getElem? (i := 27) rfl))) (by decide) (own_back (W := 0) (rmD l Z a0 hw [] b3 age bts T4.heap x4 Fa4 Fb4) hZ (hw _ (List.mem_of_getElem? (i := 29) rfl)) (hw _ (List.mem_of_getElem? (i := 8) rfl)) (by decide) (by decide)) q13a q13c (g := (mkF m 96 #[.val (.long p0), .second, .val (.long p1), .second, .val (.int p2), .val (.long age), .second, .val (.long bts), .second, .val (.ref b3), .val (.int (1 : Int32))] [(.ref b3)])) rfl (by rw [hml]; rfl) (Steps.refl _) (argsL := []) (rest := []) (lenOf pd_3 rfl) rfl (by show 2 * 0 + _ ≤ _; exact Nat.le_of_eq rfl) (hb hby at_96) (fun _ _ => ⟨rfl, rfl, (by decide : 1 + 0 ≤ _), (by decide : 2 + 0 ≤ _)⟩)
      dsimp only [Pt.U, Pt.locs, Pt.cells, Pt.slots] at X13 l13 y13 z13 st13 hQ13
      subst l13 y13 z13
      obtain ⟨rfl, N13q, e13⟩ := hQ13
      have N13 := Fr.app N4 N13q
      refine own_go (B := T13.setTop (mkF m 99 #[.val (.long p0), .second, .val (.long p1), .second, .val (.int p2), .val (.long age), .second, .val (.long bts), .second, .val (.ref b3), .val (.int (1 : Int32))] [(.int (own_del age bts))])) (fun _ k => st13.trans k) ?_
      refine own_go (B := T13.setTop (mkF m 101 #[.val (.long p0), .second, .val (.long p1), .second, .val (.int p2), .val (.long age), .second, .val (.long bts), .second, .val (.ref b3), .val (.int (1 : Int32))] [(.int (1 : Int32)), (.int (own_del age bts))])) (fun _ k => XS.iload X13.here hx rfl (hb hby at_99) rfl k) ?_
      refine own_go (B := T13.setTop (mkF m 104 #[.val (.long p0), .second, .val (.long p1), .second, .val (.int p2), .val (.long age), .second, .val (.long bts), .second, .val (.ref b3), .val (.int (1 : Int32))] [])) (fun _ k => XS.icmpNo X13.here hx rfl (hb hby at_101) rfl (teq (by unfold own_del; rw [if_neg hc675] : (own_del age bts) = (1 : Int32))).2 k) ?_
      obtain ⟨T14, X14, e14, st14⟩ := getS2 X13 hx hZ hown (host := "") (Or.inl (hw _ (List.mem_of_getElem? (i := 31) rfl))) Via.refl e13 (S_NONE.ext x4) (g := (mkF m 104 #[.val (.long p0), .second, .val (.long p1), .second, .val (.int p2), .val (.long age), .second, .val (.long bts), .second, .val (.ref b3), .val (.int (1 : Int32))] [])) rfl (hb hby at_104)
      refine own_go (B := T14.setTop (mkF m 107 #[.val (.long p0), .second, .val (.long p1), .second, .val (.int p2), .val (.long age), .second, .val (.long bts), .second, .val (.ref b3), .val (.int (1 : Int32))] [(.ref (A 0))])) st14 ?_
      obtain ⟨cq15, kq15, q15a, q15b, q15c⟩ := isOf hZ e14 (E_NONE.ext x4)
      obtain ⟨_, _, ⟨T15, L15, k15, n15⟩, -, X15, ⟨Lc15, hQ15, l15, y15, z15⟩, st15⟩ := X14.virtualBack hx (y := (⟨"com/example/sinq/sinq/broker/Retention", "deletes", "()Z"⟩ : MethodName)) (z := (⟨"com/example/sinq/sinq/broker/Retention", "deletes", "()Z"⟩ : MethodName)) hown (mvT hZ (hw _ (List.mem_of_getElem? (i := 25) rfl))) (mvT hZ (hw _ (List.mem_of_getElem? (i := 26) rfl))) (notFace_of_selects (args := #[]) (mvT hZ (hw _ (List.mem_of_getElem? (i := 28) rfl)))) (mvT hZ (hw _ (List.mem_of_getElem? (i := 28) rfl))) (mvT hZ (hw _ (List.mem_of_getElem? (i := 27) rfl))) (by decide) (own_back (W := 0) (rmD l Z a0 hw [] (A 0) (9223372036854775807 : Int64) (9223372036854775807 : Int64) T4.heap x4 (F_NONE_maxAgeMillis.ext x4) (F_NONE_maxBytes.ext x4)) hZ (hw _ (List.mem_of_getElem? (i := 29) rfl)) (hw _ (List.mem_of_getElem? (i := 8) rfl)) (by decide) (by decide)) q15a q15c (g := (mkF m 107 #[.val (.long p0), .second, .val (.long p1), .second, .val (.int p2), .val (.long age), .second, .val (.long bts), .second, .val (.ref b3), .val (.int (1 : Int32))] [(.ref (A 0))])) rfl (by rw [hml]; rfl) (Steps.refl _) (argsL := []) (rest := []) (lenOf pd_3 rfl) rfl (by show 2 * 0 + _ ≤ _; exact Nat.le_of_eq rfl) (hb hby at_107) (fun _ _ => ⟨rfl, e14, (by decide : 1 + 0 ≤ _), (by decide : 2 + 0 ≤ _)⟩)
      dsimp only [Pt.U, Pt.locs, Pt.cells, Pt.slots] at X15 l15 y15 z15 st15 hQ15
      subst l15 y15 z15
      obtain ⟨rfl, N15q, e15⟩ := hQ15
      have N15 := Fr.app N13 N15q
      refine own_go (B := T15.setTop (mkF m 110 #[.val (.long p0), .second, .val (.long p1), .second, .val (.int p2), .val (.long age), .second, .val (.long bts), .second, .val (.ref b3), .val (.int (1 : Int32))] [(.int (own_del (9223372036854775807 : Int64) (9223372036854775807 : Int64)))])) (fun _ k => st15.trans k) ?_
      refine own_go (B := T15.setTop (mkF m 113 #[.val (.long p0), .second, .val (.long p1), .second, .val (.int p2), .val (.long age), .second, .val (.long bts), .second, .val (.ref b3), .val (.int (1 : Int32))] [])) (fun _ k => XS.ifNo X15.here hx rfl (hb hby at_110) rfl (by decide +kernel) k) ?_
      refine own_go (B := T15.setTop (mkF m 114 #[.val (.long p0), .second, .val (.long p1), .second, .val (.int p2), .val (.long age), .second, .val (.long bts), .second, .val (.ref b3), .val (.int (1 : Int32))] [(.int (1 : Int32))])) (fun _ k => XT.iconstV X15.here hx rfl (1 : Int32) (hb hby at_113) rfl k) ?_
      refine own_go (B := T15.setTop (mkF m 118 #[.val (.long p0), .second, .val (.long p1), .second, .val (.int p2), .val (.long age), .second, .val (.long bts), .second, .val (.ref b3), .val (.int (1 : Int32))] [(.int (1 : Int32))])) (fun _ k => XS.goto X15.here hx rfl (pc0 := 114) (pc' := 118) rfl (hb hby at_114) (by decide) (by decide) k) ?_
      exact own_ret X15 hx (t := .boolean) hrt rfl (Or.inl ⟨rfl, by simp, _, rfl⟩) (hb hby at_118) hlk ⟨rfl, N15⟩ (by decide) (by decide)
  refine own_go (B := T2.setTop (mkF m 26 #[.val (.long p0), .second, .val (.long p1), .second, .val (.int p2), .val (.long ag), .second, .val (.long by_), .second, .unset, .unset] [(.int p2)])) (fun _ k => XS.iload X2.here hx rfl (hb hby at_24) rfl k) ?_
  refine own_go (B := T2.setTop (mkF m 27 #[.val (.long p0), .second, .val (.long p1), .second, .val (.int p2), .val (.long ag), .second, .val (.long by_), .second, .unset, .unset] [(.int (1 : Int32)), (.int p2)])) (fun _ k => XT.iconstV X2.here hx rfl (1 : Int32) (hb hby at_26) rfl k) ?_
  refine own_go (B := T2.setTop (mkF m 28 #[.val (.long p0), .second, .val (.long p1), .second, .val (.int p2), .val (.long ag), .second, .val (.long by_), .second, .unset, .unset] [(.int (p2 &&& (1 : Int32)))])) (fun _ k => XS.iand X2.here hx rfl (hb hby at_27) rfl k) ?_
  by_cases hc2816 : (p2 &&& (1 : Int32)) = (0 : Int32)
  · refine own_go (B := T2.setTop (mkF m 36 #[.val (.long p0), .second, .val (.long p1), .second, .val (.int p2), .val (.long ag), .second, .val (.long by_), .second, .unset, .unset] [])) (fun _ k => XS.ifYes X2.here hx rfl (pc0 := 28) (pc' := 36) rfl (hb hby at_28) rfl ((if0 _ _).trans (teq hc2816).1) (by decide) (by decide) k) ?_
    refine own_go (B := T2.setTop (mkF m 38 #[.val (.long p0), .second, .val (.long p1), .second, .val (.int p2), .val (.long ag), .second, .val (.long by_), .second, .unset, .unset] [(.int p2)])) (fun _ k => XS.iload X2.here hx rfl (hb hby at_36) rfl k) ?_
    refine own_go (B := T2.setTop (mkF m 39 #[.val (.long p0), .second, .val (.long p1), .second, .val (.int p2), .val (.long ag), .second, .val (.long by_), .second, .unset, .unset] [(.int (2 : Int32)), (.int p2)])) (fun _ k => XT.iconstV X2.here hx rfl (2 : Int32) (hb hby at_38) rfl k) ?_
    refine own_go (B := T2.setTop (mkF m 40 #[.val (.long p0), .second, .val (.long p1), .second, .val (.int p2), .val (.long ag), .second, .val (.long by_), .second, .unset, .unset] [(.int (p2 &&& (2 : Int32)))])) (fun _ k => XS.iand X2.here hx rfl (hb hby at_39) rfl k) ?_
    by_cases hc4017 : (p2 &&& (2 : Int32)) = (0 : Int32)
    · refine own_go (B := T2.setTop (mkF m 48 #[.val (.long p0), .second, .val (.long p1), .second, .val (.int p2), .val (.long ag), .second, .val (.long by_), .second, .unset, .unset] [])) (fun _ k => XS.ifYes X2.here hx rfl (pc0 := 40) (pc' := 48) rfl (hb hby at_40) rfl ((if0 _ _).trans (teq hc4017).1) (by decide) (by decide) k) ?_
      exact tail _ _ hag hby_
    · refine own_go (B := T2.setTop (mkF m 43 #[.val (.long p0), .second, .val (.long p1), .second, .val (.int p2), .val (.long ag), .second, .val (.long by_), .second, .unset, .unset] [])) (fun _ k => XS.ifNo X2.here hx rfl (hb hby at_40) rfl ((if0 _ _).trans (feq hc4017).1) k) ?_
      refine own_go (B := T2.setTop (mkF m 46 #[.val (.long p0), .second, .val (.long p1), .second, .val (.int p2), .val (.long ag), .second, .val (.long by_), .second, .unset, .unset] [(.long (9223372036854775807 : Int64))])) (fun _ k => Jvm.Stand.ldc2J X2 hx hown (mvT hZ (hw _ (List.mem_of_getElem? (i := 0) rfl))) (g := (mkF m 43 #[.val (.long p0), .second, .val (.long p1), .second, .val (.int p2), .val (.long ag), .second, .val (.long by_), .second, .unset, .unset] [])) rfl (hb hby at_43) k) ?_
      refine own_go (B := T2.setTop (mkF m 48 #[.val (.long p0), .second, .val (.long p1), .second, .val (.int p2), .val (.long ag), .second, .val (.long (9223372036854775807 : Int64)), .second, .unset, .unset] [])) (fun _ k => XT.lstore X2.here hx rfl (hb hby at_46) rfl (l' := #[.val (.long p0), .second, .val (.long p1), .second, .val (.int p2), .val (.long ag), .second, .val (.long (9223372036854775807 : Int64)), .second, .unset, .unset]) rfl k) ?_
      exact tail _ _ hag (by decide)
  · refine own_go (B := T2.setTop (mkF m 31 #[.val (.long p0), .second, .val (.long p1), .second, .val (.int p2), .val (.long ag), .second, .val (.long by_), .second, .unset, .unset] [])) (fun _ k => XS.ifNo X2.here hx rfl (hb hby at_28) rfl ((if0 _ _).trans (feq hc2816).1) k) ?_
    refine own_go (B := T2.setTop (mkF m 34 #[.val (.long p0), .second, .val (.long p1), .second, .val (.int p2), .val (.long ag), .second, .val (.long by_), .second, .unset, .unset] [(.long (9223372036854775807 : Int64))])) (fun _ k => Jvm.Stand.ldc2J X2 hx hown (mvT hZ (hw _ (List.mem_of_getElem? (i := 0) rfl))) (g := (mkF m 31 #[.val (.long p0), .second, .val (.long p1), .second, .val (.int p2), .val (.long ag), .second, .val (.long by_), .second, .unset, .unset] [])) rfl (hb hby at_31) k) ?_
    refine own_go (B := T2.setTop (mkF m 36 #[.val (.long p0), .second, .val (.long p1), .second, .val (.int p2), .val (.long (9223372036854775807 : Int64)), .second, .val (.long by_), .second, .unset, .unset] [])) (fun _ k => XT.lstore X2.here hx rfl (hb hby at_34) rfl (l' := #[.val (.long p0), .second, .val (.long p1), .second, .val (.int p2), .val (.long (9223372036854775807 : Int64)), .second, .val (.long by_), .second, .unset, .unset]) rfl k) ?_
    refine own_go (B := T2.setTop (mkF m 38 #[.val (.long p0), .second, .val (.long p1), .second, .val (.int p2), .val (.long (9223372036854775807 : Int64)), .second, .val (.long by_), .second, .unset, .unset] [(.int p2)])) (fun _ k => XS.iload X2.here hx rfl (hb hby at_36) rfl k) ?_
    refine own_go (B := T2.setTop (mkF m 39 #[.val (.long p0), .second, .val (.long p1), .second, .val (.int p2), .val (.long (9223372036854775807 : Int64)), .second, .val (.long by_), .second, .unset, .unset] [(.int (2 : Int32)), (.int p2)])) (fun _ k => XT.iconstV X2.here hx rfl (2 : Int32) (hb hby at_38) rfl k) ?_
    refine own_go (B := T2.setTop (mkF m 40 #[.val (.long p0), .second, .val (.long p1), .second, .val (.int p2), .val (.long (9223372036854775807 : Int64)), .second, .val (.long by_), .second, .unset, .unset] [(.int (p2 &&& (2 : Int32)))])) (fun _ k => XS.iand X2.here hx rfl (hb hby at_39) rfl k) ?_
    by_cases hc4018 : (p2 &&& (2 : Int32)) = (0 : Int32)
    · refine own_go (B := T2.setTop (mkF m 48 #[.val (.long p0), .second, .val (.long p1), .second, .val (.int p2), .val (.long (9223372036854775807 : Int64)), .second, .val (.long by_), .second, .unset, .unset] [])) (fun _ k => XS.ifYes X2.here hx rfl (pc0 := 40) (pc' := 48) rfl (hb hby at_40) rfl ((if0 _ _).trans (teq hc4018).1) (by decide) (by decide) k) ?_
      exact tail _ _ (by decide) hby_
    · refine own_go (B := T2.setTop (mkF m 43 #[.val (.long p0), .second, .val (.long p1), .second, .val (.int p2), .val (.long (9223372036854775807 : Int64)), .second, .val (.long by_), .second, .unset, .unset] [])) (fun _ k => XS.ifNo X2.here hx rfl (hb hby at_40) rfl ((if0 _ _).trans (feq hc4018).1) k) ?_
      refine own_go (B := T2.setTop (mkF m 46 #[.val (.long p0), .second, .val (.long p1), .second, .val (.int p2), .val (.long (9223372036854775807 : Int64)), .second, .val (.long by_), .second, .unset, .unset] [(.long (9223372036854775807 : Int64))])) (fun _ k => Jvm.Stand.ldc2J X2 hx hown (mvT hZ (hw _ (List.mem_of_getElem? (i := 0) rfl))) (g := (mkF m 43 #[.val (.long p0), .second, .val (.long p1), .second, .val (.int p2), .val (.long (9223372036854775807 : Int64)), .second, .val (.long by_), .second, .unset, .unset] [])) rfl (hb hby at_43) k) ?_
      refine own_go (B := T2.setTop (mkF m 48 #[.val (.long p0), .second, .val (.long p1), .second, .val (.int p2), .val (.long (9223372036854775807 : Int64)), .second, .val (.long (9223372036854775807 : Int64)), .second, .unset, .unset] [])) (fun _ k => XT.lstore X2.here hx rfl (hb hby at_46) rfl (l' := #[.val (.long p0), .second, .val (.long p1), .second, .val (.int p2), .val (.long (9223372036854775807 : Int64)), .second, .val (.long (9223372036854775807 : Int64)), .second, .unset, .unset]) rfl k) ?_
      exact tail _ _ (by decide) (by decide)
set_option maxRecDepth 65536 in
set_option maxHeartbeats 40000000 in
theorem comes_1 {Post : Tables → Env → Array Value → State → Outcome → State → Prop} (hpost : ∀ tb e args s v u, (limb_1_1.after args s (.returned v) u = true ∧ limb_1_2.after args s (.returned v) u = true ∧ True) → FrameEnd s (.returned v) u (Jvm.fieldLocs frame_1_writes args s ++ Jvm.arrayLocs frame_1_arrays args s ++ Jvm.staticLocs frame_1_statics s) 16 128 → Post tb e args s (.returned v) u) :
    ArmFor flags0 classFile x code maxLocals ret World_1 tables_1 room_1 Calls_1 rest_1 Pre_1 Post := by
  intro l hfl _ _ p e ha hc hk s m args below hf hA hF happ hP
  obtain ⟨hcalls, hrest, hpre⟩ := hP
  obtain ⟨-, -, -, hnamed, -, -, -, hat⟩ := (Spec.applies_iff hf).mp happ
  obtain ⟨hg, hn⟩ := and_e (Cond.before_iff.mp (show (Jvm.Cond.and given_1 narrow_1).before args s = true from hpre))
  obtain ⟨g1a, g1b⟩ := and_e hg
  obtain ⟨g2a, g2b⟩ := and_e g1b
  obtain ⟨g3a, g3b⟩ := and_e g2b
  obtain ⟨w0, w1, w2, rfl⟩ : ∃ w0 w1 w2 : Value, args = #[w0, w1, w2] := by
    have hs : args.size = 3 := by simpa [Cond.value, given_1] using g1a
    obtain ⟨L⟩ := args
    match L, hs with
    | [w0, w1, w2], _ => exact ⟨w0, w1, w2, rfl⟩
  have hw := fun d (hd : d ∈ tables_1) => atoms_spec (ws := Jvm.Cond.code x code maxLocals ret :: tables_1) hat d (List.mem_cons_of_mem _ hd)
  obtain ⟨i0, ei0⟩ := isL_v g2a
  obtain rfl : w0 = (.long i0) := Option.some.inj ei0
  obtain ⟨i1, ei1⟩ := isL_v g3a
  obtain rfl : w1 = (.long i1) := Option.some.inj ei1
  obtain ⟨i2, ei2⟩ := is_v g3b
  obtain rfl : w2 = (.int i2) := Option.some.inj ei2
  obtain ⟨u1a, u1b⟩ := and_e hn
  obtain ⟨u2a, u2b⟩ := and_e u1b
  obtain ⟨a_NONE, ev_NONE⟩ := exa_v u1a
  obtain ⟨n, o, h1, h2, h3, _, L, rfl, ⟨rfl, N⟩, hq⟩ := rm0 l s _ hw tables_1 i0 i1 i2 (fun n => [a_NONE].getD n 0) ⟨(Sta.start ev_NONE (Or.inr ⟨(hw _ (List.mem_of_getElem? (i := 8) rfl)), (hw _ (List.mem_of_getElem? (i := 32) rfl))⟩)), (Exa.start ev_NONE u1a), (own_fJ ev_NONE u2a), (own_fJ ev_NONE u2b)⟩ s.heap (own_xr _) p e ha hc hk s m _ below hf ((Spec.applies_iff_loose hf).mp happ).1 ⟨rfl, State.Warmed39.refl s, rfl⟩ trivial
  refine ⟨n, _, h1, h2, h3, hpost _ _ _ _ _ _ ⟨Cond.after_iff.mpr rfl, Cond.after_iff.mpr (eq_i res_at (Term.int_eval (1)) rfl), trivial⟩ ⟨hq.1, hq.2.1, (hq.2.2.sift fun y hy => Or.inr (N y hy)).mono (by decide) (by decide)⟩⟩
theorem main_1_1 : Claimed_1_1 := comes_1 fun _ _ _ _ _ _ h hF => ⟨h.1, hF⟩
theorem main_1_2 : Claimed_1_2 := comes_1 fun _ _ _ _ _ _ h hF => ⟨h.2.1, hF⟩
end Jvm.Pilot.@@N@@
namespace Jvm.Pilot.@@N@@
open Jvm Jvm.ClassFile Sem Op Lib Jvm.Free Jvm.Stand Jvm.Pilot.@@N@@.Jvm.D
/-! MADE BY PROGRAM (witnessworld.py) out of the Statement's table words and the real class files: 11 classes; the members and pool entries that the words name. The judged class is class 1, her method 1. -/
namespace start1
open Jvm.ClassFile
def u (s : String) : CpInfo := .utf8 (stringToUtf16 s)
/-- a pool by its gaps: so many unusable entries, then the entry; so many at the end -/
def gap : Nat → List CpInfo → List CpInfo
  | 0, r => r
  | n + 1, r => .unusable :: gap n r
def poolList (es : List (Nat × CpInfo)) (last : Nat) : List CpInfo := es.foldr (fun e r => gap e.1 (e.2 :: r)) (gap last [])
def pool (es : List (Nat × CpInfo)) (last : Nat) : Array CpInfo := ⟨poolList es last⟩
def fileOf (pool : Array CpInfo) (this : Nat) (attrs : Array Attribute := #[]) (ms : Array MethodInfo := #[]) (fl : Nat := 33) (sup : Nat := 0) (ifs : Array Nat := #[]) (fds : Array FieldInfo := #[]) : ClassFile where
  minorVersion := 0
  majorVersion := 65
  constantPool := pool
  accessFlags := fl
  thisClass := this
  superClass := sup
  interfaces := ifs
  fields := fds
  methods := ms
  attributes := attrs
def plain (name : String) (sup : Option ClassId) : Class where
  name := name
  kind := .ordinary
  loader := none
  accessFlags := 33
  super := sup
  interfaces := #[]
  cf := none
  fields := #[]
  methods := #[]
  instanceTypes := #[]
  staticTypes := #[]
  resolved := #[]
  callSites := []
  init := .initialized
  statics := none
  mirror := none

def pool0 : Array CpInfo := pool [(5, u "<init>"), (0, u "()V"), (1, .class_ 10), (1, u "java/lang/Object")] 113

def k0c0 : Code := { maxStack := 0, maxLocals := 1, code := object_method_1_code, exceptionTable := #[], attributes := #[] }
def k0m0 : Method := { name := "<init>", desc := "()V", sig := { parameters := [], returnType := none }, accessFlags := 1, code := some k0c0 }
/-- java/lang/Object -/
def k0 : Class := { plain "java/lang/Object" none with
  accessFlags := 33
  interfaces := #[]
  cf := some (fileOf pool0 8 #[] #[{ accessFlags := 1, nameIndex := 5, descriptorIndex := 6, attributes := #[] }] 33 0 #[] #[])
  fields := #[]
  methods := #[k0m0]
  instanceTypes := #[]
  staticTypes := #[]
  resolved := Array.replicate 124 none
  statics := none }

def pool1 : Array CpInfo := pool [(2, .class_ 4), (1, u "java/lang/Object"), (0, u "<init>"), (0, u "()V"), (2, .long 9223372036854775807), (1, .methodref 12 13), (0, .class_ 14), (0, .nameAndType 15 16), (0, u "java/lang/Math"), (0, u "max"), (0, u "(JJ)J"), (0, .class_ 18), (0, u "com/example/sinq/sinq/broker/Retention"), (0, .long 4096), (1, .methodref 17 22), (0, .nameAndType 5 23), (0, u "(JJ)V"), (0, .methodref 17 25), (0, .nameAndType 26 27), (0, u "deletes"), (0, u "()Z"), (0, .fieldref 17 29), (0, .nameAndType 30 31), (0, u "NONE"), (0, u "Lcom/example/sinq/sinq/broker/Retention;"), (0, .class_ 33), (0, u "com/example/sinq/sinq/broker/RetentionDeletesPinLaw"), (2, u "law"), (0, u "(JJI)Z")] 3

def k1m0 : Method := { name := "<init>", desc := "()V", sig := { parameters := [], returnType := none }, accessFlags := 2, code := none }
def k1c1 : Code := { maxStack := 6, maxLocals := 11, code := code, exceptionTable := #[], attributes := #[] }
def k1m1 : Method := { name := "law", desc := "(JJI)Z", sig := { parameters := [.long, .long, .int], returnType := some .boolean }, accessFlags := 9, code := some k1c1 }
/-- com/example/sinq/sinq/broker/RetentionDeletesPinLaw -/
def k1 : Class := { plain "com/example/sinq/sinq/broker/RetentionDeletesPinLaw" (some 0) with
  accessFlags := 49
  interfaces := #[]
  cf := some (fileOf pool1 32 #[] #[{ accessFlags := 2, nameIndex := 5, descriptorIndex := 6, attributes := #[] }, { accessFlags := 9, nameIndex := 36, descriptorIndex := 37, attributes := #[] }] 49 2 #[] #[])
  fields := #[]
  methods := #[k1m0, k1m1]
  instanceTypes := #[]
  staticTypes := #[]
  resolved := Array.replicate 41 none
  statics := none }

def pool2 : Array CpInfo := pool [(1, .class_ 2), (0, u "java/lang/Math"), (1, .class_ 6), (1, u "java/lang/Object"), (0, u "<init>"), (0, u "()V"), (89, .class_ 100), (1, u "java/lang/Math$RandomNumberGeneratorHolder"), (20, u "(JJ)J"), (50, u "negativeZeroFloatBits"), (0, u "J"), (2, u "negativeZeroDoubleBits"), (21, u "max"), (46, u "$assertionsDisabled"), (0, u "Z"), (91, u "twoToTheDoubleScaleDown"), (0, u "D"), (4, u "twoToTheDoubleScaleUp"), (9, u "E"), (3, u "PI"), (2, u "TAU"), (2, u "DEGREES_TO_RADIANS"), (0, u "RADIANS_TO_DEGREES")] 94

def k2m0 : Method := { name := "<init>", desc := "()V", sig := { parameters := [], returnType := none }, accessFlags := 2, code := none }
def k2c1 : Code := { maxStack := 4, maxLocals := 4, code := jdk_29_method_66_code, exceptionTable := #[], attributes := #[] }
def k2m1 : Method := { name := "max", desc := "(JJ)J", sig := { parameters := [.long, .long], returnType := some .long }, accessFlags := 9, code := some k2c1 }
/-- java/lang/Math -/
def k2 : Class := { plain "java/lang/Math" (some 0) with
  accessFlags := 49
  interfaces := #[]
  cf := some (fileOf pool2 1 #[.nestMembers #[98]] #[{ accessFlags := 2, nameIndex := 7, descriptorIndex := 8, attributes := #[] }, { accessFlags := 9, nameIndex := 198, descriptorIndex := 121, attributes := #[] }] 49 4 #[] #[{ accessFlags := 25, nameIndex := 354, descriptorIndex := 339, attributes := #[] }, { accessFlags := 25, nameIndex := 358, descriptorIndex := 339, attributes := #[] }, { accessFlags := 25, nameIndex := 361, descriptorIndex := 339, attributes := #[] }, { accessFlags := 26, nameIndex := 364, descriptorIndex := 339, attributes := #[] }, { accessFlags := 26, nameIndex := 365, descriptorIndex := 339, attributes := #[] }, { accessFlags := 26, nameIndex := 172, descriptorIndex := 173, attributes := #[] }, { accessFlags := 26, nameIndex := 176, descriptorIndex := 173, attributes := #[] }, { accessFlags := 8, nameIndex := 344, descriptorIndex := 339, attributes := #[] }, { accessFlags := 8, nameIndex := 338, descriptorIndex := 339, attributes := #[] }, { accessFlags := 4120, nameIndex := 245, descriptorIndex := 246, attributes := #[] }])
  fields := #[{ name := "E", type := .double, accessFlags := 25, slot := 0, constantValue := 0 }, { name := "PI", type := .double, accessFlags := 25, slot := 1, constantValue := 0 }, { name := "TAU", type := .double, accessFlags := 25, slot := 2, constantValue := 0 }, { name := "DEGREES_TO_RADIANS", type := .double, accessFlags := 26, slot := 3, constantValue := 0 }, { name := "RADIANS_TO_DEGREES", type := .double, accessFlags := 26, slot := 4, constantValue := 0 }, { name := "negativeZeroFloatBits", type := .long, accessFlags := 26, slot := 5, constantValue := 0 }, { name := "negativeZeroDoubleBits", type := .long, accessFlags := 26, slot := 6, constantValue := 0 }, { name := "twoToTheDoubleScaleUp", type := .double, accessFlags := 8, slot := 7, constantValue := 0 }, { name := "twoToTheDoubleScaleDown", type := .double, accessFlags := 8, slot := 8, constantValue := 0 }, { name := "$assertionsDisabled", type := .boolean, accessFlags := 4120, slot := 9, constantValue := 0 }]
  methods := #[k2m0, k2m1]
  instanceTypes := #[]
  staticTypes := #[.double, .double, .double, .double, .double, .long, .long, .double, .double, .boolean]
  resolved := Array.replicate 460 none
  statics := none }

def pool3 : Array CpInfo := pool [(1, .methodref 2 3), (0, .class_ 4), (0, .nameAndType 5 6), (0, u "java/lang/Object"), (0, u "<init>"), (0, u "()V"), (0, .class_ 8), (0, u "java/lang/Record")] 13

def k3c0 : Code := { maxStack := 1, maxLocals := 1, code := jdk_30_method_1_code, exceptionTable := #[], attributes := #[] }
def k3m0 : Method := { name := "<init>", desc := "()V", sig := { parameters := [], returnType := none }, accessFlags := 4, code := some k3c0 }
/-- java/lang/Record -/
def k3 : Class := { plain "java/lang/Record" (some 0) with
  accessFlags := 1057
  interfaces := #[]
  cf := some (fileOf pool3 7 #[] #[{ accessFlags := 4, nameIndex := 5, descriptorIndex := 6, attributes := #[] }] 1057 2 #[] #[])
  fields := #[]
  methods := #[k3m0]
  instanceTypes := #[]
  staticTypes := #[]
  resolved := Array.replicate 22 none
  statics := none }

def pool4 : Array CpInfo := pool [(3, .methodref 4 5), (0, .class_ 6), (0, .nameAndType 7 8), (0, u "java/lang/Record"), (0, u "<init>"), (0, u "()V"), (9, .class_ 19), (0, u "com/example/sinq/sinq/broker/Retention"), (0, .long 4096), (2, .fieldref 18 24), (0, .nameAndType 25 26), (0, u "maxAgeMillis"), (0, u "J"), (0, .fieldref 18 28), (0, .nameAndType 29 26), (0, u "maxBytes"), (2, .long 9223372036854775807), (16, u "()Z"), (15, .class_ 67), (1, u "com/example/sinq/sinq/broker/Retention$Times"), (16, u "(JJ)V"), (2, u "NONE"), (0, u "Lcom/example/sinq/sinq/broker/Retention;"), (0, u "MIN_BYTES"), (5, u "deletes")] 46

def k4c0 : Code := { maxStack := 4, maxLocals := 5, code := prog_50_method_1_code, exceptionTable := #[], attributes := #[] }
def k4m0 : Method := { name := "<init>", desc := "(JJ)V", sig := { parameters := [.long, .long], returnType := none }, accessFlags := 1, code := some k4c0 }
def k4c1 : Code := { maxStack := 4, maxLocals := 1, code := prog_50_method_2_code, exceptionTable := #[], attributes := #[] }
def k4m1 : Method := { name := "deletes", desc := "()Z", sig := { parameters := [], returnType := some .boolean }, accessFlags := 0, code := some k4c1 }
/-- com/example/sinq/sinq/broker/Retention -/
def k4 : Class := { plain "com/example/sinq/sinq/broker/Retention" (some 3) with
  accessFlags := 49
  interfaces := #[]
  cf := some (fileOf pool4 18 #[.nestMembers #[65]] #[{ accessFlags := 1, nameIndex := 7, descriptorIndex := 84, attributes := #[] }, { accessFlags := 0, nameIndex := 95, descriptorIndex := 49, attributes := #[] }] 49 4 #[] #[{ accessFlags := 18, nameIndex := 25, descriptorIndex := 26, attributes := #[] }, { accessFlags := 18, nameIndex := 29, descriptorIndex := 26, attributes := #[] }, { accessFlags := 25, nameIndex := 89, descriptorIndex := 26, attributes := #[] }, { accessFlags := 25, nameIndex := 87, descriptorIndex := 88, attributes := #[] }])
  fields := #[{ name := "maxAgeMillis", type := .long, accessFlags := 18, slot := 0, constantValue := 0 }, { name := "maxBytes", type := .long, accessFlags := 18, slot := 1, constantValue := 0 }, { name := "MIN_BYTES", type := .long, accessFlags := 25, slot := 0, constantValue := 0 }, { name := "NONE", type := (.object "com/example/sinq/sinq/broker/Retention"), accessFlags := 25, slot := 1, constantValue := 0 }]
  methods := #[k4m0, k4m1]
  instanceTypes := #[.long, .long]
  staticTypes := #[.long, (.object "com/example/sinq/sinq/broker/Retention")]
  resolved := Array.replicate 142 none
  statics := some 0 }

def pool5 : Array CpInfo := pool [(1, u "java/lang/Cloneable"), (0, .class_ 1), (0, u "java/lang/Object"), (0, .class_ 3)] 3

/-- java/lang/Cloneable -/
def k5 : Class := { plain "java/lang/Cloneable" (some 0) with
  accessFlags := 1537
  interfaces := #[]
  cf := some (fileOf pool5 2 #[] #[] 1537 4 #[] #[])
  fields := #[]
  methods := #[]
  instanceTypes := #[]
  staticTypes := #[]
  resolved := Array.replicate 8 none
  statics := none }

def pool6 : Array CpInfo := pool [(1, u "java/io/Serializable"), (0, .class_ 1), (0, u "java/lang/Object"), (0, .class_ 3)] 3

/-- java/io/Serializable -/
def k6 : Class := { plain "java/io/Serializable" (some 0) with
  accessFlags := 1537
  interfaces := #[]
  cf := some (fileOf pool6 2 #[] #[] 1537 4 #[] #[])
  fields := #[]
  methods := #[]
  instanceTypes := #[]
  staticTypes := #[]
  resolved := Array.replicate 8 none
  statics := none }

/-- the primitive byte -/
def k7 : Class := { plain "byte" none with kind := .primitive 'B', accessFlags := 0x411 }
/-- [B -/
def k8 : Class := { plain "[B" (some 0) with kind := .array 7 .byte, interfaces := #[5, 6], accessFlags := 1041 }

/-- the primitive int -/
def k9 : Class := { plain "int" none with kind := .primitive 'I', accessFlags := 0x411 }
/-- [I -/
def k10 : Class := { plain "[I" (some 0) with kind := .array 9 .int, interfaces := #[5, 6], accessFlags := 1041 }

def heap : Heap := #[{ cls := 4, slots := #[.long 0, .ref 1], vm := .statics 4 },
  { cls := 4, slots := #[.long 9223372036854775807, .long 9223372036854775807], vm := .none }]
def classes : Array Class := #[k0, k1, k2, k3, k4, k5, k6, k7, k8, k9, k10]
def interned : List (Array UInt16 × Addr) := []
def slotsUsed : Nat := 4
def theMethod : MethodId := ⟨1, 1⟩
def args0 : Array Value := #[.long 5, .long 7, .int 0]
def aboutOver (below : List Frame) : State where
  vm := { classes := classes, interned := interned.toArray }
  heap := heap
  slotsUsed := slotsUsed
  threads := #[{ frames := .invoking theMethod args0 :: below }]
def below0 : List Frame := [.native { method := ⟨0, 0⟩, args := #[] }]
def about1 : State := aboutOver below0
def p0 : Program := .bare "" "" ""
def e0 : Env := launch0.env 0 0 0
theorem w_frames : about1.frames = Frame.invoking theMethod args0 :: below0 := rfl
set_option maxRecDepth 65536 in
theorem w_args : argsFit about1.vm theMethod args0 = true := by decide +kernel
set_option maxRecDepth 65536 in
theorem w_heap : heapFits about1 = true := by decide +kernel
set_option maxRecDepth 65536 in
theorem w_runnable : about1.curStatus? = some .runnable := by decide +kernel
set_option maxRecDepth 65536 in
theorem w_alone : about1.alone = true := by decide +kernel
set_option maxRecDepth 65536 in
theorem w_named : about1.methodNamed? x = some theMethod := by decide +kernel
set_option maxRecDepth 65536 in
theorem w_hears : about1.hears theMethod below0 = true := by decide +kernel
set_option maxRecDepth 65536 in
theorem w_ripe : about1.ripe theMethod args0 below0 = true := by decide +kernel
theorem w_running : about1.status = .running := rfl
set_option maxRecDepth 65536 in
theorem w_room : about1.hasRoom e0.platform room_1 = true :=
  launch0.hasRoom_least _ room_1 (by decide +kernel) (by decide +kernel) (by decide +kernel) (by decide +kernel) (by decide +kernel) (by decide +kernel)
theorem allAtoms_all (ts : List Jvm.Cond) (a : Array Jvm.Value) (st : Jvm.State) : (allAtoms ts).before a st = ts.all (fun c => c.before a st) := by
  induction ts with
  | nil => rfl
  | cons c t ih =>
    show (Jvm.Cond.and c (allAtoms t)).before a st = _
    rw [Jvm.Cond.before_and, ih, List.all_cons]
def words1 : List Jvm.Cond := Jvm.Cond.code x code maxLocals ret :: tables_1
/-- a 'code' word, met by the world's own term for the bytes: nothing is compared byte by byte -/
theorem code_word {y : MethodName} {bytes : ByteArray} {mx : Nat} {rt : Option FieldType} {a : Array Value} {s : State} {m : MethodId} {meth : Method} {c : Code} (h1 : s.methodNamed? y = some m) (h2 : s.vm.method? m = some meth) (h3 : meth.code = some c) (h4 : c.code = bytes)
    (h5 : (c.maxLocals == mx && c.exceptionTable.isEmpty && decide (c.maxStack ≤ mostOperands) && decide (meth.sig.returnType = rt) && !meth.locks && decide (parseMethodDescriptor y.desc = some meth.sig)) = true) : (Jvm.Cond.code y bytes mx rt).before a s = true := by
  simp only [Bool.and_eq_true, beq_iff_eq, Bool.not_eq_true', decide_eq_true_eq] at h5
  obtain ⟨⟨⟨⟨⟨g1, g2⟩, g3⟩, g4⟩, g5⟩, g6⟩ := h5
  simp [Cond.before, Cond.holds, Cond.value, h1, h2, h3, h4, g1, g2, g3, g4, g5, g6]
def isCode : Jvm.Cond → Bool
  | .code _ _ _ _ => true
  | _ => false
theorem all_split {L : List Jvm.Cond} {P : Jvm.Cond → Bool} (h1 : L.all (fun c => isCode c || P c) = true) (h2 : ∀ c ∈ L.filter isCode, P c = true) : L.all P = true := by
  refine List.all_eq_true.mpr fun c hc => ?_
  have h := List.all_eq_true.mp h1 c hc
  rcases Bool.eq_false_or_eq_true (isCode c) with hi | hi
  · exact h2 c (List.mem_filter.mpr ⟨hc, hi⟩)
  · simpa [hi] using h
set_option maxRecDepth 65536 in
theorem w_c0 : (Jvm.Cond.code x code maxLocals ret).before args0 about1 = true := code_word (m := ⟨1, 1⟩) (meth := k1m1) (c := k1c1) (by decide +kernel) rfl rfl rfl (by decide +kernel)
set_option maxRecDepth 65536 in
theorem w_c1 : (Jvm.Cond.code ({ cls := "java/lang/Math", name := "max", desc := "(JJ)J" } : Jvm.MethodName) jdk_29_method_66_code (4 : Nat) (Option.some Jvm.ClassFile.FieldType.long)).before args0 about1 = true := code_word (m := ⟨2, 1⟩) (meth := k2m1) (c := k2c1) (by decide +kernel) rfl rfl rfl (by decide +kernel)
set_option maxRecDepth 65536 in
theorem w_c2 : (Jvm.Cond.code ({ cls := "com/example/sinq/sinq/broker/Retention", name := "<init>", desc := "(JJ)V" } : Jvm.MethodName) prog_50_method_1_code (5 : Nat) (Option.none : Option Jvm.ClassFile.FieldType)).before args0 about1 = true := code_word (m := ⟨4, 0⟩) (meth := k4m0) (c := k4c0) (by decide +kernel) rfl rfl rfl (by decide +kernel)
set_option maxRecDepth 65536 in
theorem w_c3 : (Jvm.Cond.code ({ cls := "java/lang/Record", name := "<init>", desc := "()V" } : Jvm.MethodName) jdk_30_method_1_code (1 : Nat) (Option.none : Option Jvm.ClassFile.FieldType)).before args0 about1 = true := code_word (m := ⟨3, 0⟩) (meth := k3m0) (c := k3c0) (by decide +kernel) rfl rfl rfl (by decide +kernel)
set_option maxRecDepth 65536 in
theorem w_c4 : (Jvm.Cond.code ({ cls := "java/lang/Object", name := "<init>", desc := "()V" } : Jvm.MethodName) object_method_1_code (1 : Nat) (Option.none : Option Jvm.ClassFile.FieldType)).before args0 about1 = true := code_word (m := ⟨0, 0⟩) (meth := k0m0) (c := k0c0) (by decide +kernel) rfl rfl rfl (by decide +kernel)
set_option maxRecDepth 65536 in
theorem w_c5 : (Jvm.Cond.code ({ cls := "com/example/sinq/sinq/broker/Retention", name := "deletes", desc := "()Z" } : Jvm.MethodName) prog_50_method_2_code (1 : Nat) (Option.some Jvm.ClassFile.FieldType.boolean)).before args0 about1 = true := code_word (m := ⟨4, 1⟩) (meth := k4m1) (c := k4c1) (by decide +kernel) rfl rfl rfl (by decide +kernel)
def codes1 : List Jvm.Cond := [Jvm.Cond.code x code maxLocals ret, Jvm.Cond.code ({ cls := "java/lang/Math", name := "max", desc := "(JJ)J" } : Jvm.MethodName) jdk_29_method_66_code (4 : Nat) (Option.some Jvm.ClassFile.FieldType.long), Jvm.Cond.code ({ cls := "com/example/sinq/sinq/broker/Retention", name := "<init>", desc := "(JJ)V" } : Jvm.MethodName) prog_50_method_1_code (5 : Nat) (Option.none : Option Jvm.ClassFile.FieldType), Jvm.Cond.code ({ cls := "java/lang/Record", name := "<init>", desc := "()V" } : Jvm.MethodName) jdk_30_method_1_code (1 : Nat) (Option.none : Option Jvm.ClassFile.FieldType), Jvm.Cond.code ({ cls := "java/lang/Object", name := "<init>", desc := "()V" } : Jvm.MethodName) object_method_1_code (1 : Nat) (Option.none : Option Jvm.ClassFile.FieldType), Jvm.Cond.code ({ cls := "com/example/sinq/sinq/broker/Retention", name := "deletes", desc := "()Z" } : Jvm.MethodName) prog_50_method_2_code (1 : Nat) (Option.some Jvm.ClassFile.FieldType.boolean)]
set_option maxRecDepth 65536 in
theorem codes_eq : words1.filter isCode = codes1 := rfl
theorem w_codes : ∀ c ∈ words1.filter isCode, c.before args0 about1 = true := by
  rw [codes_eq]
  intro c hc
  simp only [codes1, List.mem_cons, List.not_mem_nil, or_false] at hc
  rcases hc with rfl | rfl | rfl | rfl | rfl | rfl
  · exact w_c0
  · exact w_c1
  · exact w_c2
  · exact w_c3
  · exact w_c4
  · exact w_c5
set_option maxRecDepth 65536 in
theorem w_t1 : (words1.take 24).all (fun c => isCode c || c.before args0 about1) = true := by decide +kernel
set_option maxRecDepth 65536 in
theorem w_t2 : (words1.drop 24).all (fun c => isCode c || c.before args0 about1) = true := by decide +kernel
theorem w_tables : (allAtoms (Jvm.Cond.code x code maxLocals ret :: tables_1)).before args0 about1 = true := by
  rw [allAtoms_all]
  show words1.all (fun c => c.before args0 about1) = true
  refine all_split ?_ w_codes
  rw [← List.take_append_drop 24 words1, List.all_append, w_t1, w_t2]
  rfl
set_option maxRecDepth 65536 in
theorem w_case : (Jvm.Cond.and given_1 narrow_1).before args0 about1 = true := by decide +kernel
theorem w_applies : (headSpec (Jvm.Cond.code x code maxLocals ret :: tables_1) room_1).applies x e0.platform about1 = true :=
  (Spec.applies_iff w_frames).mpr ⟨w_running, w_runnable, w_alone, w_named, w_hears, w_ripe, w_room, w_tables⟩
theorem atStart : AtStart classFile x code maxLocals ret World_1 tables_1 room_1 Calls_1 rest_1 Pre_1 launch0 p0 e0 about1 theMethod args0 below0 :=
  ⟨lists_1, trivial, launch0.admits_env _ _ _, launch0.least_env, fairChoices_fair.cas, fairChoices_fair.clock, w_frames, w_args, w_heap, w_applies, trivial, trivial, w_case⟩
end start1
theorem witness_1 : WitnessClaimed_1 := ⟨start1.p0, start1.e0, start1.about1, start1.theMethod, start1.args0, start1.below0, start1.atStart⟩
end Jvm.Pilot.@@N@@
