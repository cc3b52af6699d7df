import Derived.Test.YbulkjucFmtMapR
import Derived.Test.YbulkjucFmtBuild
namespace Go.Proofs.YbulkjucFmt
open Go.RowKit Go.Maps

theorem appE {w : World} {ops : Array Oper} {rest : List Oper} {o : Oper} {a : Act} {Q : Exit → Act → World → Prop} (hgd : o.guard = none) (s x : Operand)
    (ho : o.op = .call { callee := .builtin .append, args := #[s, x], argTypes := #[30, 30] })
    (base : Nat) (oa : Option Addr) (n cap : Nat) (es : List EX) (hs : a.eval s = .slice oa n cap) (hown : w.ownsRow base 36 2 (.slice oa n cap) n (ecells es))
    (ob : Option Addr) (c : Nat) (y : EX) (hx : a.eval x = .slice ob 1 c) (hsrc : Src w ob 1 2 c y.cells) (hbd : n + 1 ≤ 1000000) (hbase : base ≤ w.heap.size)
    (h : ∀ oa2 cap2 w', w'.ownsRow base 36 2 (.slice oa2 (n + 1) cap2) (n + 1) (ecells (es ++ [y])) → Grew w w' oa oa2 → wpList Ybaf.prog ops Q rest (a.put o.dst (.slice oa2 (n + 1) cap2)) w') : wpList Ybaf.prog ops Q (o :: rest) a w :=
  appG hgd s x 30 36 (.agg #[.int .u16 0, .slice none 0 0]) 2 32 ho Ybaf.underlying30 info36 rfl (by decide) (by decide) base oa n cap (ecells es) hs hown ob 1 c y.cells hx hsrc (by simp [EX.cells, Value.oneCell']) hbd hbase (fun oa2 cap2 w' h2 h3 => h oa2 cap2 w' (by rw [show ecells (es ++ [y]) = ecells es ++ y.cells from by simp [ecells]]; exact h2) h3)

theorem owns_neB {w : World} {base : Nat} {e : TypeId} {size : Nat} {oa : Option Addr} {n cap rb : Nat} {xs : List Value} {v : Value} (h : w.ownsRow base e size (.slice oa n cap) n xs) (hB : Box w rb v) (hne : e ≠ 50) : blk oa ≠ some rb := by
  intro hk
  rcases h.2 with ⟨h1, _⟩ | ⟨g, _, cur, h1, _, hh, _⟩
  · cases h1; cases hk
  · cases h1
    cases hk
    unfold Box at hB
    rw [hh] at hB
    simp at hB
    exact hne hB.2
theorem owns_neM {w : World} {base : Nat} {e : TypeId} {size : Nat} {oa : Option Addr} {n cap mp k : Nat} {xs : List Value} {ts : List Int} (h : w.ownsRow base e size (.slice oa n cap) n xs) (hM : Seen w mp k ts) : blk oa ≠ some mp := by
  intro hk
  obtain ⟨D, ⟨es, cl, hm, _⟩, _⟩ := hM
  rcases h.2 with ⟨h1, _⟩ | ⟨g, _, cur, h1, _, hh, _⟩
  · cases h1; cases hk
  · cases h1
    cases hk
    rw [hh] at hm
    cases hm
theorem RdAt.grew {w w' : World} {rb mb m : Nat} {xs : List Int} {o1 o2 : Option Addr} (h : RdAt w rb mb m xs) (hg : Grew w w' o1 o2) (h1 : blk o1 ≠ some rb) (h2 : blk o1 ≠ some mb) : RdAt w' rb mb m xs := by
  obtain ⟨off, c, hB, hmc, hcm, hs, hne⟩ := h
  exact ⟨off, c, hB.grew hg h1, hmc, hcm, hs.grew hg fun k hk e => h2 (by
    have : mb = k := Option.some.inj hk
    rw [this]; exact e), hne⟩
theorem RdAt.move {w : World} {mb m off c : Nat} {xs : List Int} (hm : m ≤ c) (hc : c ≤ maxLen) (hs : Src w (some ⟨mb, off, none⟩) m 1 c (cu8 xs)) (rb2 : Nat) (h2 : rb2 = w.heap.size) : RdAt (w.alloc (.cells #[.slice (some ⟨mb, off, none⟩) m c] 50)) rb2 mb m xs := by
  subst h2
  have hlt := hs.lt mb rfl
  exact ⟨off, c, heap_alloc_new w _, hm, hc, hs.grew (Grew.alloc _ _ none) (by simp [blk]), by omega⟩

/-- After k extensions. -/
structure ParE (w wr : World) (mb mp : Nat) (es : List EX) (k rb : Nat) (oE : Option Addr) (cE : Nat) (es' : List EX) : Prop where
  rd : RdAt wr rb mb (encE (es.drop k)).length (encE (es.drop k))
  own : wr.ownsRow w.heap.size 36 2 (.slice oE k cE) k (ecells es')
  ks : es'.map key = (es.take k).map key
  dt : ∀ x ∈ es', ∃ off, x.ob = some ⟨mb, off, none⟩ ∧ Src wr x.ob x.d.length 1 x.c (cu8 x.d)
  seen : Seen wr mp k ((es.take k).map EX.ty)
  low : Below w.heap.size w wr
  ge : w.heap.size ≤ rb
  ne : rb ≠ mp
theorem encE_drop {es : List EX} {k : Nat} {x : EX} (h : es[k]? = some x) : encE (es.drop k) = [x.ty / 256, x.ty % 256] ++ ([(x.d.length : Int) / 256, (x.d.length : Int) % 256] ++ (x.d ++ encE (es.drop (k + 1)))) := by
  obtain ⟨hlt, rfl⟩ := List.getElem?_eq_some_iff.1 h
  rw [List.drop_eq_getElem_cons hlt]
  simp only [encE, List.flatMap_cons, List.cons_append, List.nil_append]
theorem fresh_ty {es : List EX} {k : Nat} {x : EX} (hn : (es.map EX.ty).Nodup) (h : es[k]? = some x) : x.ty ∉ (es.take k).map EX.ty := by
  obtain ⟨hlt, rfl⟩ := List.getElem?_eq_some_iff.1 h
  have e : es = es.take k ++ (es[k] :: es.drop (k + 1)) := by rw [← List.drop_eq_getElem_cons hlt, List.take_append_drop]
  intro hm
  rw [e, List.map_append, List.map_cons] at hn
  exact (List.nodup_append.1 hn).2.2 _ hm _ (List.mem_cons_self) rfl
theorem parE_start (mb off EL : Nat) (es : List EX) (w : World) (hs : Src w (some ⟨mb, off, none⟩) EL 1 EL (cu8 (encE es))) (hEL : (encE es).length = EL) (hE : EL ≤ 65535) :
    ParE w ((w.alloc (.map #[] 0)).alloc (.cells #[.slice (some ⟨mb, off, none⟩) EL EL] 50)) mb w.heap.size es 0 (w.heap.size + 1) none 0 [] := by
  refine ⟨?_, World.ownsRow_nil _ _ _ _, rfl, by simp, (Seen.made w).grew (Grew.alloc _ _ none) (by simp [blk]), by go_grown, by omega, by omega⟩
  rw [List.drop_zero, hEL]
  exact RdAt.move (Nat.le_refl _) (by unfold maxLen; omega) (hs.grew (Grew.alloc _ _ none) (by simp [blk])) _ (by simp)
/-- What one round does to the reader, and to the rest. -/
theorem ParE.rd4 {w wr w2 w3 w4 : World} {mb mp k rb m2 : Nat} {es es' : List EX} {oE oE2 : Option Addr} {cE : Nat} {zs : List Int} {o : Obj} (h : ParE w wr mb mp es k rb oE cE es') (hmb : mb < w.heap.size) (hmp : w.heap.size ≤ mp)
    (hr : RdAt w2 rb mb m2 zs) (g3 : w2.grownBy w3 (some mp)) (g4 : Grew (w3.alloc o) w4 oE oE2) : RdAt w4 rb mb m2 zs := by
  obtain ⟨_, _, hB, _⟩ := h.rd
  have e1 : blk oE ≠ some rb := owns_neB h.own hB (by decide)
  have e2 : blk oE ≠ some mb := fun e => by have := (owns_lt h.own mb e).1; omega
  have G3 : Grew w2 w3 (some ⟨mp, 0, none⟩) (some ⟨mp, 0, none⟩) := ⟨g3, fun _ h => Or.inl h⟩
  exact ((hr.grew G3 (fun e => h.ne (Option.some.inj e).symm) (fun e => by have : mp = mb := Option.some.inj e; omega)).grew (Grew.alloc _ _ none) (by simp [blk]) (by simp [blk])).grew g4 e1 e2
theorem ParE.own3 {w wr w2 w3 : World} {mb mp k rb : Nat} {es es' : List EX} {oE : Option Addr} {cE : Nat} (h : ParE w wr mb mp es k rb oE cE es')
    (g2 : Grew wr w2 (some ⟨rb, 0, none⟩) (some ⟨rb, 0, none⟩)) (g3 : w2.grownBy w3 (some mp)) (o : Obj) : (w3.alloc o).ownsRow w.heap.size 36 2 (.slice oE k cE) k (ecells es') := by
  obtain ⟨_, _, hB, _⟩ := h.rd
  have e1 : blk oE ≠ some rb := owns_neB h.own hB (by decide)
  have e2 : blk oE ≠ some mp := owns_neM h.own h.seen
  have G3 : Grew w2 w3 (some ⟨mp, 0, none⟩) (some ⟨mp, 0, none⟩) := ⟨g3, fun _ h => Or.inl h⟩
  exact (owns_kept (owns_kept h.own g2 fun j hj e => e1 (hj.trans e.symm)) G3 fun j hj e => e2 (hj.trans e.symm)).alloc o
theorem ParE.room3 {w wr w2 w3 : World} {mb mp k rb : Nat} {es es' : List EX} {oE : Option Addr} {cE : Nat} (h : ParE w wr mb mp es k rb oE cE es')
    (g2 : Grew wr w2 (some ⟨rb, 0, none⟩) (some ⟨rb, 0, none⟩)) (g3 : w2.grownBy w3 (some mp)) (o : Obj) : w.heap.size ≤ (w3.alloc o).heap.size := by
  have s0 := h.low.size
  have s2 := g2.size
  have s3 := g3.size
  simp
  omega
theorem ParE.low4 {w wr w2 w3 w4 : World} {mb mp k rb : Nat} {es es' : List EX} {oE oE2 : Option Addr} {cE : Nat} {o : Obj} (h : ParE w wr mb mp es k rb oE cE es') (hmp : w.heap.size ≤ mp)
    (g2 : Grew wr w2 (some ⟨rb, 0, none⟩) (some ⟨rb, 0, none⟩)) (g3 : w2.grownBy w3 (some mp)) (g4 : Grew (w3.alloc o) w4 oE oE2) : Below w.heap.size w2 w4 ∧ Below w.heap.size wr w4 := by
  have s0 := h.low.size
  have s2 := g2.size
  have s3 := g3.size
  have b2 : Below w.heap.size wr w2 := g2.below s0 fun j hj => by have : rb = j := Option.some.inj hj; have := h.ge; omega
  have b3 : Below w.heap.size w2 w3 := (Below.refl _ _).grown g3 (by omega) fun j hj => by have : mp = j := Option.some.inj hj; omega
  have b4 : Below w.heap.size w3 w4 := ((Below.refl _ _).alloc (by omega) o).trans (g4.below (by simp; omega) fun j hj => (owns_lt h.own j hj).1)
  exact ⟨b3.trans b4, (b2.trans b3).trans b4⟩
theorem ParE.next {w wr w2 w3 w4 : World} {mb mp k rb offd ro rc m2 : Nat} {es es' : List EX} {oE oE2 : Option Addr} {cE cE2 : Nat} {x : EX} {o : Obj} (h : ParE w wr mb mp es k rb oE cE es') (hmb : mb < w.heap.size) (hmp : w.heap.size ≤ mp) (hx : es[k]? = some x)
    (g2 : Grew wr w2 (some ⟨rb, 0, none⟩) (some ⟨rb, 0, none⟩)) (hs : Src w2 (some ⟨mb, offd, none⟩) x.d.length 1 x.d.length (cu8 x.d))
    (hS : Seen w3 mp (k + 1) ((es.take k).map EX.ty ++ [x.ty])) (g3 : w2.grownBy w3 (some mp)) (g4 : Grew (w3.alloc o) w4 oE oE2) (hown : w4.ownsRow w.heap.size 36 2 (.slice oE2 (k + 1) cE2) (k + 1) (ecells (es' ++ [⟨x.ty, some ⟨mb, offd, none⟩, x.d.length, x.d⟩])))
    (hm2 : m2 = (encE (es.drop (k + 1))).length) (hmc : m2 ≤ rc) (hrc : rc ≤ maxLen) (hsr : Src w4 (some ⟨mb, ro, none⟩) m2 1 rc (cu8 (encE (es.drop (k + 1))))) :
    ParE w (w4.alloc (.cells #[.slice (some ⟨mb, ro, none⟩) m2 rc] 50)) mb mp es (k + 1) w4.heap.size oE2 cE2 (es' ++ [⟨x.ty, some ⟨mb, offd, none⟩, x.d.length, x.d⟩]) := by
  subst hm2
  obtain ⟨b24, br4⟩ := h.low4 hmp g2 g3 g4
  have s2 := g2.size
  have s3 := g3.size
  have s4 := g4.size
  simp at s4
  have hlow : Below w.heap.size w w4 := h.low.trans br4
  have hb4 := hlow.size
  have e2 : blk oE ≠ some mp := owns_neM h.own h.seen
  refine ⟨RdAt.move hmc hrc hsr _ rfl, hown.alloc _, ?_, ?_, ?_, hlow.alloc hb4 _, hb4, ?_⟩
  · rw [List.take_add_one, hx]
    simp [h.ks, key]
  · intro y hy
    rcases List.mem_append.1 hy with hy | hy
    · obtain ⟨off, ho, hsy⟩ := h.dt y hy
      refine ⟨off, ho, ?_⟩
      rw [ho] at hsy ⊢
      exact (hsy.below br4 fun j hj => by have : mb = j := Option.some.inj hj; omega).grew (Grew.alloc _ _ none) (by simp [blk])
    · rw [List.mem_singleton.1 hy]
      exact ⟨offd, rfl, (hs.below b24 fun j hj => by have : mb = j := Option.some.inj hj; omega).grew (Grew.alloc _ _ none) (by simp [blk])⟩
  · rw [List.take_add_one, hx]
    simp only [Option.toList_some, List.map_append, List.map_cons, List.map_nil]
    exact (((hS.grew (Grew.alloc _ _ none) (by simp [blk])).grew g4 e2).grew (Grew.alloc _ _ none) (by simp [blk]))
  · have := hS.lt
    omega

set_option maxRecDepth 100000 in
set_option maxHeartbeats 1600000 in
theorem extsR (mb off EL : Nat) (es : List EX) (w : World) (hs : Src w (some ⟨mb, off, none⟩) EL 1 EL (cu8 (encE es))) (hEL : (encE es).length = EL) (hE : EL ≤ 65535) (hf : ∀ x ∈ es, 0 ≤ x.ty ∧ x.ty < 65536) (hd : ∀ x ∈ es, x.d.length ≤ 1024) (hn : es.length ≤ 256) (hnd : (es.map EX.ty).Nodup) :
    Calls Ybaf.prog 28 #[.slice (some ⟨mb, off, none⟩) EL EL] w fun e w' => ∃ oE cE es', e = .returned (.tuple #[.slice oE es.length cE, .nilIface]) ∧ w'.ownsRow w.heap.size 36 2 (.slice oE es.length cE) es.length (ecells es') ∧ es'.map key = es.map key ∧ (∀ x ∈ es', ∃ off, x.ob = some ⟨mb, off, none⟩ ∧ Src w' x.ob x.d.length 1 x.c (cu8 x.d)) ∧ Below w.heap.size w w' := by
  have HS : Hid (Src w (some ⟨mb, off, none⟩) EL 1 EL (cu8 (encE es))) := hs
  have HEL : Hid ((encE es).length = EL) := hEL
  have HF : Hid (∀ x ∈ es, 0 ≤ x.ty ∧ x.ty < 65536) := hf
  have HD : Hid (∀ x ∈ es, x.d.length ≤ 1024) := hd
  have HN : Hid ((es.map EX.ty).Nodup) := hnd
  have hmb : mb < w.heap.size := hs.lt mb rfl
  obtain ⟨n, hnn⟩ : ∃ n, n = es.length := ⟨_, rfl⟩
  rw [← hnn] at hn ⊢
  have HL : Hid (n = es.length) := hnn
  have hmm := @run_makeMap Ybaf.prog
  clear hs hf hd hnd hEL hnn
  go_enter Ybaf.func28, Ybaf.ntmps28
  go_wp2_with fail
  clear hmm
  have P0 := parE_start mb off EL es w HS.out HEL.out hE
  generalize ((w.alloc (Obj.map #[] 0)).alloc (Obj.cells #[Value.slice (some { block := mb, off := off }) EL EL] 50)) = W0 at *
  go_loopw [4, 6] (fun s4 s6 wr => ∃ (k rb : Nat) (oE : Option Addr) (cE : Nat) (es' : List EX), k ≤ n ∧ s4 = .slice oE k cE ∧ s6 = .pointer (some ⟨rb, 0, none⟩) ∧ ParE w wr mb w.heap.size es k rb oE cE es') (fun s4 _ _ => n - (match s4 with | .slice _ k _ => k | _ => 0))
  case atStart => exact ⟨0, _, none, 0, [], Nat.zero_le _, rfl, rfl, P0⟩
  case round =>
    obtain ⟨k, rb, oE, cE, es', hk, rfl, rfl, hP⟩ := hrel
    have HP : Hid (ParE w wr mb w.heap.size es k rb oE cE es') := hP
    obtain ⟨ro, rc, hB, hmc, hcm, hsr, hne⟩ := hP.rd
    have cB := hB.cell
    by_cases hlt : k < n
    · obtain ⟨x, hx⟩ : ∃ x, es[k]? = some x := ⟨_, List.getElem?_eq_getElem (by have := HL.out; omega)⟩
      have hmem : x ∈ es := List.mem_of_getElem? hx
      obtain ⟨hx0, hx1⟩ := HF.out x hmem
      have hd1 := HD.out x hmem
      have hR := hP.rd
      rw [encE_drop hx] at hR
      have hM : 4 ≤ (encE (es.drop k)).length := by rw [encE_drop hx]; simp
      have HR : Hid (RdAt wr rb mb (encE (es.drop k)).length ([x.ty / 256, x.ty % 256] ++ ([(x.d.length : Int) / 256, (x.d.length : Int) % 256] ++ (x.d ++ encE (es.drop (k + 1)))))) := by
        have := hP.rd
        rw [encE_drop hx] at this ⊢
        exact this
      have HX : Hid (es[k]? = some x) := hx
      have hnew : x.ty ∉ (es.take k).map EX.ty := fresh_ty HN.out hx
      have HNew : Hid (x.ty ∉ (es.take k).map EX.ty) := hnew
      have hwf : Hid ((Lit.int .u16 x.ty).wf = true) := WalkArith.wf_u16 (by omega)
      have HMl : Hid ((encE (es.drop k)).length = 4 + x.d.length + (encE (es.drop (k + 1))).length) := by
        rw [encE_drop hx]
        exact by show _ = _; simp; omega
      generalize hMM : (encE (es.drop k)).length = M at *
      clear hR hnew hx hmem hsr hB hP hMM
      obtain ⟨ty, ob, c, d⟩ := x
      simp only at *
      generalize hdl : d.length = dl at *
      have HP2 : Hid (M - 2 - 2 - dl = (encE (es.drop (k + 1))).length) := by
        have := HMl.out
        exact by show _ = _; omega
      go_wp2_with (first
        | (go_at_call 26; refine Calls.mono (by exact uintR2 rb mb M ty _ wr HR.out hx0 hx1) ?_; rintro e w1 ⟨rfl, hr1, hg1⟩; have HR1 : Hid (RdAt w1 rb mb (M - 2) ([(dl : Int) / 256, (dl : Int) % 256] ++ (d ++ encE (es.drop (k + 1))))) := hr1; have HG1 : Hid (Grew wr w1 (some ⟨rb, 0, none⟩) (some ⟨rb, 0, none⟩)) := hg1; clear hr1 hg1 cB)
        | (go_at_call 21; refine Calls.mono (by exact vecR2 rb mb (M - 2) dl d _ w1 HR1.out hdl (by omega)) ?_; rintro e w2 ⟨offd, rfl, hs2, hr2, hg2⟩; have HS2 : Hid (Src w2 (some ⟨mb, offd, none⟩) dl 1 dl (cu8 d)) := hs2; have HR2 : Hid (RdAt w2 rb mb (M - 2 - 2 - dl) (encE (es.drop (k + 1)))) := hr2; have HG2 : Hid (Grew wr w2 (some ⟨rb, 0, none⟩) (some ⟨rb, 0, none⟩)) := HG1.out.trans hg2; clear hs2 hr2 hg2)
        | (at_lookup; refine look_new rfl (.tmp 35) (.tmp 37) rfl w.heap.size k ((es.take k).map EX.ty) (by rfl) (HP.out.seen.grew HG2.out (fun e => HP.out.ne (Option.some.inj e))) ty (by rfl) hwf.out HNew.out ?_)
        | (at_mapUpdate; refine store_new rfl (.tmp 43) (.tmp 45) (.const (.bool true)) rfl w.heap.size k ((es.take k).map EX.ty) (by rfl) (HP.out.seen.grew HG2.out (fun e => HP.out.ne (Option.some.inj e))) (by unfold maxLen; omega) ty (by rfl) hwf.out (by rfl) ?_; intro w3 hs3 hg3; have HS3 : Hid (Seen w3 w.heap.size (k + 1) ((es.take k).map EX.ty ++ [ty])) := hs3; have HG3 : Hid (w2.grownBy w3 (some w.heap.size)) := hg3; have s3 := hg3.size; clear hs3 hg3)
        | (at_builtin; refine appE rfl (.tmp 46) (.tmp 51) (by rfl) w.heap.size oE k cE es' (by rfl) (HP.out.own3 HG2.out HG3.out _) (some ⟨w3.heap.size, 0, none⟩) 1 ⟨ty, some ⟨mb, offd, none⟩, dl, d⟩ (by rfl) (src_ext w3 hdl) (by omega) (HP.out.room3 HG2.out HG3.out _) ?_; intro oE2 cE2 w4 hown4 hg4; have HO4 : Hid (w4.ownsRow w.heap.size 36 2 (.slice oE2 (k + 1) cE2) (k + 1) (ecells (es' ++ [⟨ty, some ⟨mb, offd, none⟩, dl, d⟩]))) := hown4; have HG4 : Hid (Grew (w3.alloc (.cells #[.int .u16 ty, .slice (some ⟨mb, offd, none⟩) dl dl] 36)) w4 oE oE2) := hg4; obtain ⟨ro4, rc4, hB4, hmc4, hcm4, hsr4, _⟩ := HP.out.rd4 hmb (Nat.le_refl _) HR2.out HG3.out hg4; have c4 := hB4.cell; clear hown4 hg4 hB4))
      go_roundw
      case rel =>
        subst hdl
        exact ⟨k + 1, w4.heap.size, oE2, cE2, _, by omega, rfl, rfl, HP.out.next hmb (Nat.le_refl _) HX.out HG2.out HS2.out HS3.out HG3.out HG4.out HO4.out HP2.out hmc4 hcm4 hsr4⟩
      case measure => simp; omega
    · have hkn : k = n := by omega
      have hz : es.drop k = [] := List.drop_of_length_le (by have := HL.out; omega)
      have hM0 : (encE (es.drop k)).length = 0 := by rw [hz]; rfl
      rw [hM0] at cB
      subst hkn
      clear hB hsr hP hz hmc
      go_wp2
      go_ret2
      have h := HP.out
      have ht : es.take k = es := List.take_of_length_le (by have := HL.out; omega)
      exact ⟨oE, cE, es', rfl, h.own, by rw [h.ks, ht], h.dt, h.low⟩
end Go.Proofs.YbulkjucFmt
