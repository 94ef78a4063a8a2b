import PyProof.Rows.All
import Wide.All
import OpenK.AllK
import Wide.FinOn
import PySem.Challenge.RW_mq0314_01
open PySem PySem.W PyProof.Rows PySem.Spec PySem.Calls
set_option pp.deepTerms false
set_option pp.deepTerms.threshold 4
set_option pp.maxSteps 1500
set_option Elab.async false
set_option maxRecDepth 100000
set_option maxHeartbeats 8000000
namespace Mine
theorem anew1 : (0 : Nat) = 0 := by
  first | walk1 | rfl
section
/-- the view of the text: its statements but the three that set __name__ -/
def vw : Program := PySem.W.view PySem.Challenge.pw_mq0314_01 [0, 2, 4, 5, 6, 7, 8, 10, 11, 12, 13, 14, 15]
/-- the run of the top may be looked at from behind the start-up, which the library knows -/
theorem left_boot {p q : Program} {loose : List Str} {Xt : Shared → Bool} {α : Type} {Yf : Shared → α} {Ya : World → α} {N : Nat} {g0 : Bool} (e : opening p = plainProg p.main.scope.names) (hN : Nat.ble 600 N = true) (f : ∀ s, fenceModules? p s = some s)
    (h : ∀ (w : World) (os : OsState), (topFrom treeTable p w N ⟨boot_heap w.params, Array.mk [], boot_drawn, boot_toks, os⟩).map (fun s => (openSeen q loose (importedModules p.main.body) Xt g0 s, Yf s)) = some (openGood q loose, Ya w)) : LeftO p q loose Xt Yf Ya N g0 := fun w => by
  obtain ⟨⟨h', gs, d, k, os⟩, e1, e2⟩ := Option.map_eq_some_iff.mp (boot_open e hN f w)
  obtain ⟨rfl, rfl, rfl, rfl⟩ : h' = boot_heap w.params ∧ gs = Array.mk [] ∧ d = boot_drawn ∧ k = boot_toks := by simpa using e2
  unfold openEnds
  rw [e1]
  exact h w os
section
local macro_rules | `(tactic| o_head $_) => `(tactic| assumption)
theorem topF (h : PySem.Challenge.rw_mq0314_01.row.Holds) : PySem.Challenge.rw_mq0314_01.row.Holds := by
  k_head
end
theorem said0 : OpenLaw.wellSaid PySem.Challenge.rw_mq0314_01 = true := by kernel_rfl
theorem top0 : opening PySem.Challenge.rw_mq0314_01.row.prog = plainProg PySem.Challenge.rw_mq0314_01.row.prog.main.scope.names := by kernel_rfl
theorem top1 (s : Shared) : fenceModules? PySem.Challenge.rw_mq0314_01.row.prog s = some s := by kernel_rfl
theorem left0 : LeftO PySem.Challenge.rw_mq0314_01.row.prog vw [Str.ofString "_NodeInfo"] (fun s => xlAt vw [] s && recOk (RowW.records (OpenRow.toRowW (OpenLaw.row PySem.Challenge.rw_mq0314_01))) s) (Hook.obs (kHook topF.heap_1 [2, 3, 15, 17, 18, 20, 21, 22, 24, 25, 27, 28, 36, 37, 39, 40, 42, 43, 44, 46, 47, 48, 49, 50, 53, 60, 61, 62, 63, 73, 74, 76, 77, 79, 80, 81, 83, 84, 86, 87, 88, 90, 91, 93, 94, 95, 98, 99, 100, 102, 103, 105, 106, 107, 109, 110, 112, 113, 114, 116, 117, 119, 120, 121, 123, 124, 126, 127, 128, 130, 131, 133, 134, 135, 137, 138, 140, 141, 142, 143, 144, 145, 146, 149, 152, 153, 154, 156, 157, 159, 160, 161, 164, 165, 166, 169, 170, 171, 174, 175, 176, 179, 180] (fun _ => by kernel_rfl))) (Hook.val (kHook topF.heap_1 [2, 3, 15, 17, 18, 20, 21, 22, 24, 25, 27, 28, 36, 37, 39, 40, 42, 43, 44, 46, 47, 48, 49, 50, 53, 60, 61, 62, 63, 73, 74, 76, 77, 79, 80, 81, 83, 84, 86, 87, 88, 90, 91, 93, 94, 95, 98, 99, 100, 102, 103, 105, 106, 107, 109, 110, 112, 113, 114, 116, 117, 119, 120, 121, 123, 124, 126, 127, 128, 130, 131, 133, 134, 135, 137, 138, 140, 141, 142, 143, 144, 145, 146, 149, 152, 153, 154, 156, 157, 159, 160, 161, 164, 165, 166, 169, 170, 171, 174, 175, 176, 179, 180] (fun _ => by kernel_rfl))) 2632 := left_boot top0 (by kernel_rfl) top1 fun w os => by
  unfold topFrom
  rw [PySem.W.Fast.te14082659384304107361, PySem.W.Fast.te14364793385576792824, PySem.W.Fast.te4187177175401517315]
  kernel_rfl
end
section
/-- a contract of a def: called with vs over a ledger X it comes back with a value and a ledger -/
def Spec (lv : Nat) (w : World) (f : Addr) (vs : List Value) (X : List (Addr × Obj)) (Post : Value → List (Addr × Obj) → Prop) : Prop :=
  ∀ (loose : List Str) (mean : ExcName → Option Value) (mg mb : Str → Option Value) (dp un : Nat) (gd : Option (List Code)) (cn : Str) (cs : Scope) (a : Addr) (ccd : Value) (cl : List (Str × Addr)) (outer : List Env) (A₀ : Around) (base h₀ : Heap) (L : Addr) (m : Str → Option Value) (s : Shared)
    (Q E : Value → Shared → Prop),
    Below A₀ base outer h₀ → Fr h₀ L s.heap m → (topF.heap_1 w.params).In h₀ → News h₀ L s.heap X → Top vw loose mean mg mb h₀ → cs.kind = .function → dp + 10 * lv < 400 → un + 50 * lv < 4000 →
    (∀ r X' h' tk', Fr h₀ L h' m → News h₀ L h' X' → Post r X' → Q r { s with heap := h', toks := tk' }) →
    wpAny (model PySem.Challenge.rw_mq0314_01.row.prog w) (ktrTop dp un gd cn cs L a ccd cl outer) (call (.ref f) vs) Q E s

def off (d : Addr) (X : List (Addr × Obj)) : List (Addr × Obj) := X.filter fun p => p.1 != d
theorem off_ne {d : Addr} {X : List (Addr × Obj)} : ∀ p ∈ off d X, p.1 ≠ d := fun p hp => by
  simp only [off, List.mem_filter, bne_iff_ne] at hp
  exact hp.2
theorem mem_off {d : Addr} {X : List (Addr × Obj)} {p : Addr × Obj} (h : p ∈ X) (hn : p.1 ≠ d) : p ∈ off d X := by
  simp only [off, List.mem_filter, bne_iff_ne]
  exact ⟨h, hn⟩
theorem of_off {d : Addr} {X : List (Addr × Obj)} {p : Addr × Obj} (h : p ∈ off d X) : p ∈ X := (List.mem_filter.mp h).1
theorem focus {h₀ h : Heap} {L d : Addr} {o : Obj} {X : List (Addr × Obj)} (N : News h₀ L h X) (hm : (d, o) ∈ X) : News h₀ L h ((d, o) :: off d X) := fun p hp => by
  rcases List.mem_cons.mp hp with rfl | hp
  · exact N _ hm
  · exact N _ (of_off hp)
theorem News.sub {h₀ h : Heap} {L : Addr} {X Y : List (Addr × Obj)} (N : News h₀ L h X) (hs : ∀ p ∈ Y, p ∈ X) : News h₀ L h Y := fun p hp => N p (hs p hp)
theorem News.one {h₀ h : Heap} {L a : Addr} {o o' : Obj} {X : List (Addr × Obj)} (N : News h₀ L h X) (h1 : (a, o) ∈ X) (h2 : (a, o') ∈ X) : o = o' := Option.some.inj ((N _ h1).1.symm.trans (N _ h2).1)
theorem News.apart {h₀ h : Heap} {L a b : Addr} {o o' : Obj} {X : List (Addr × Obj)} (N : News h₀ L h X) (h1 : (a, o) ∈ X) (h2 : (b, o') ∈ X) (hn : o ≠ o') : a ≠ b := fun e => hn (News.one N h1 (e ▸ h2))

theorem ne_of_all {X : List (Addr × Obj)} {d e : Addr} (l : ∀ p ∈ X, p.1 < e) (h : @LE.le Nat _ e d) : ∀ p ∈ X, p.1 ≠ d := fun p hp => Nat.ne_of_lt (Nat.lt_of_lt_of_le (l p hp) h)
abbrev listO (vs : List Value) (n : Nat) : Obj := listOf vs.toArray n
abbrev infoO (j : Addr) (k : Int) (t1 : Tok) (np : Int) (t2 : Tok) (l : Addr) : Obj := ⟨.ref 47, some j, .plain, #[some (.int k t1), some (.int np t2), some (.ref l)]⟩
abbrev attrO (w : World) (n2 : Addr) (rv : Value) (p : Int) (tp : Tok) (f : Int) (tf : Tok) (t1 t2 t3 t4 : Tok) : Obj :=
  dictOf [⟨PyData.keyHash w.params "_node2info", .str "_node2info" t1, .ref n2⟩, ⟨PyData.keyHash w.params "_ready_nodes", .str "_ready_nodes" t2, rv⟩,
    ⟨PyData.keyHash w.params "_npassedout", .str "_npassedout" t3, .int p tp⟩, ⟨PyData.keyHash w.params "_nfinished", .str "_nfinished" t4, .int f tf⟩] 4

structure Sg where
  sx : Addr
  dx : Addr
  n2 : Addr
  ks : List Int
  ia : Int → Addr
  ja : Int → Addr
  la : Int → Addr

/-- the sorter's addresses, all apart -/
structure Apart (g : Sg) : Prop where
  sd : g.sx ≠ g.dx
  sn : g.sx ≠ g.n2
  dn : g.dx ≠ g.n2
  si : ∀ k ∈ g.ks, g.sx ≠ g.ia k
  sj : ∀ k ∈ g.ks, g.sx ≠ g.ja k
  sl : ∀ k ∈ g.ks, g.sx ≠ g.la k
  di : ∀ k ∈ g.ks, g.dx ≠ g.ia k
  dj : ∀ k ∈ g.ks, g.dx ≠ g.ja k
  dl : ∀ k ∈ g.ks, g.dx ≠ g.la k
  ni : ∀ k ∈ g.ks, g.n2 ≠ g.ia k
  nj : ∀ k ∈ g.ks, g.n2 ≠ g.ja k
  nl : ∀ k ∈ g.ks, g.n2 ≠ g.la k
  ii : ∀ k ∈ g.ks, ∀ j ∈ g.ks, g.ia k = g.ia j → k = j
  ll : ∀ k ∈ g.ks, ∀ j ∈ g.ks, g.la k = g.la j → k = j
  ij : ∀ k ∈ g.ks, ∀ j ∈ g.ks, g.ia k ≠ g.ja j
  il : ∀ k ∈ g.ks, ∀ j ∈ g.ks, g.ia k ≠ g.la j
  jl : ∀ k ∈ g.ks, ∀ j ∈ g.ks, g.ja k ≠ g.la j

def At (g : Sg) (a : Addr) : Prop := a = g.sx ∨ a = g.dx ∨ a = g.n2 ∨ ∃ k ∈ g.ks, a = g.ia k ∨ a = g.ja k ∨ a = g.la k

structure Srt (w : World) (X : List (Addr × Obj)) (g : Sg) (np : Int → Int) (su : Int → List Int) (rv : Value) (p f : Int) : Prop where
  inst : (g.sx, instObj 144 g.dx) ∈ X
  attr : ∃ t1 t2 t3 t4 tp tf, (g.dx, attrO w g.n2 rv p tp f tf t1 t2 t3 t4) ∈ X
  dict : ∃ o, (g.n2, o) ∈ X ∧ o.IsDictOf (intKind PySem.Challenge.rw_mq0314_01.row.prog w) (g.ks.map fun k => (k, .ref (g.ia k)))
  info : ∀ k ∈ g.ks, ∃ t1 t2, (g.ia k, infoO (g.ja k) k t1 (np k) t2 (g.la k)) ∈ X
  idic : ∀ k ∈ g.ks, (g.ja k, dictOf [] 0) ∈ X
  succ : ∀ k ∈ g.ks, ∃ vs n, (g.la k, listO vs n) ∈ X ∧ IntsAre vs (su k)
  nd : g.ks.Nodup
  rng : ∀ k ∈ g.ks, 0 ≤ k ∧ k < 6
  lo : (g.n2 == sysModules) = false
  ap : Apart g
  out : ∀ k, k ∉ g.ks → np k = 0 ∧ su k = []

def up {α : Type} (f : Int → α) (v : Int) (x : α) : Int → α := fun k => if k = v then x else f k
theorem up_self {α : Type} (f : Int → α) (v : Int) (x : α) : up f v x v = x := if_pos rfl
theorem up_ne {α : Type} (f : Int → α) {v k : Int} (x : α) (h : k ≠ v) : up f v x k = f k := if_neg h

def Sg.add (g : Sg) (v : Int) (i j l : Addr) : Sg := { g with ks := g.ks ++ [v], ia := up g.ia v i, ja := up g.ja v j, la := up g.la v l }

theorem nodup_le : ∀ (n : Nat) (l : List Int), l.Nodup → (∀ k ∈ l, 0 ≤ k ∧ k < n) → l.length ≤ n
  | 0, l, _, h => by
    cases l with
    | nil => exact Nat.le_refl _
    | cons a r => have := h a (.head _); omega
  | n + 1, l, hn, h => by
    have h1 := nodup_le n (l.filter fun k => decide (k ≠ (n : Int))) (hn.filter _) (fun k hk => by
      have h2 := List.mem_filter.mp hk
      have h3 := h k h2.1
      have h4 : k ≠ n := of_decide_eq_true h2.2
      omega)
    have h5 : l.length ≤ (l.filter fun k => decide (k ≠ (n : Int))).length + 1 := by
      clear h1 h
      induction l with
      | nil => simp
      | cons a r ih =>
        have hr := ih (List.nodup_cons.mp hn).2
        by_cases e : a = (n : Int)
        · have ha : (r.filter fun k => decide (k ≠ (n : Int))) = r := List.filter_eq_self.mpr fun k hk => by
            have := (List.nodup_cons.mp hn).1
            exact decide_eq_true fun q => this (by rw [e, ← q]; exact hk)
          rw [List.filter_cons_of_neg (by simp [e]), ha]; simp
        · rw [List.filter_cons_of_pos (by simp [e])]; simp only [List.length_cons]; omega
    omega
theorem valueAt_in {ks : List Int} {ia : Int → Addr} {v : Int} (h : v ∈ ks) : valueAt (ks.map fun k => (k, Value.ref (ia k))) v = some (.ref (ia v)) := by
  induction ks with
  | nil => cases h
  | cons a r ih =>
    unfold valueAt at ih ⊢
    by_cases e : a = v
    · subst e; simp
    · have h' : v ∈ r := by
        rcases List.mem_cons.mp h with q | q
        · exact absurd q.symm e
        · exact q
      rw [List.map_cons, List.find?_cons_of_neg (by simp [e])]
      exact ih h'
theorem valueAt_out {ks : List Int} {ia : Int → Addr} {v : Int} (h : v ∉ ks) : valueAt (ks.map fun k => (k, Value.ref (ia k))) v = none := by
  induction ks with
  | nil => rfl
  | cons a r ih =>
    have h1 : a ≠ v := fun e => h (e ▸ .head _)
    have h2 : v ∉ r := fun q => h (.tail _ q)
    unfold valueAt at ih ⊢
    rw [List.map_cons, List.find?_cons_of_neg (by simp [h1])]
    exact ih h2
theorem stored_out {ks : List Int} {ia : Int → Addr} {v : Int} {i : Addr} (h : v ∉ ks) : stored (ks.map fun k => (k, Value.ref (ia k))) v (.ref i) = (ks ++ [v]).map fun k => (k, Value.ref (up ia v i k)) := by
  have e : (ks.map fun k => (k, Value.ref (up ia v i k))) = ks.map fun k => (k, Value.ref (ia k)) := List.map_congr_left fun k hk => by
    have hn : ¬ k = v := fun q => h (q ▸ hk)
    rw [up_ne _ _ hn]
  rw [List.map_append, e]
  unfold stored
  rw [if_neg (by
    rw [Bool.not_eq_true, List.any_eq_false]
    intro kv hkv
    obtain ⟨k, hk, rfl⟩ := List.mem_map.mp hkv
    have hn : ¬ k = v := fun q => h (q ▸ hk)
    simpa using hn)]
  simp [up_self]

theorem Srt.len {w : World} {X : List (Addr × Obj)} {g : Sg} {np : Int → Int} {su : Int → List Int} {rv : Value} {p f : Int} (S : Srt w X g np su rv p f) : g.ks.length ≤ 6 := nodup_le 6 _ S.nd S.rng

section
variable {w : World} {X X' : List (Addr × Obj)} {g : Sg} {np : Int → Int} {su : Int → List Int} {rv : Value} {p f : Int}

/-- what stands at the sorter's addresses stands still: the sorter stands still -/
theorem Srt.still (S : Srt w X g np su rv p f) (fr : ∀ q ∈ X, At g q.1 → q ∈ X') : Srt w X' g np su rv p f := by
  obtain ⟨inst, ⟨t1, t2, t3, t4, tp, tf, attr⟩, ⟨o, dict, hD⟩, info, idic, succ, nd, rng, lo, ap, out⟩ := S
  refine ⟨fr _ inst (.inl rfl), ⟨t1, t2, t3, t4, tp, tf, fr _ attr (.inr (.inl rfl))⟩, ⟨o, fr _ dict (.inr (.inr (.inl rfl))), hD⟩, fun k hk => ?_, fun k hk => fr _ (idic k hk) (.inr (.inr (.inr ⟨k, hk, .inr (.inl rfl)⟩))), fun k hk => ?_, nd, rng, lo, ap, out⟩
  · obtain ⟨a, b, h⟩ := info k hk
    exact ⟨a, b, fr _ h (.inr (.inr (.inr ⟨k, hk, .inl rfl⟩)))⟩
  · obtain ⟨a, b, h, i⟩ := succ k hk
    exact ⟨a, b, fr _ h (.inr (.inr (.inr ⟨k, hk, .inr (.inr rfl)⟩))), i⟩

theorem Srt.setNp {v n : Int} {t1 t2 : Tok} (S : Srt w X g np su rv p f) (hv : v ∈ g.ks) (hi : (g.ia v, infoO (g.ja v) v t1 n t2 (g.la v)) ∈ X') (fr : ∀ q ∈ X, q.1 ≠ g.ia v → q ∈ X') : Srt w X' g (up np v n) su rv p f := by
  obtain ⟨inst, ⟨t1', t2', t3, t4, tp, tf, attr⟩, ⟨o, dict, hD⟩, info, idic, succ, nd, rng, lo, ap, out⟩ := S
  refine ⟨fr _ inst (ap.si v hv), ⟨t1', t2', t3, t4, tp, tf, fr _ attr (ap.di v hv)⟩, ⟨o, fr _ dict (ap.ni v hv), hD⟩, fun k hk => ?_, fun k hk => fr _ (idic k hk) (ap.ij v hv k hk).symm, fun k hk => ?_, nd, rng, lo, ap, fun k hk => ?_⟩
  · by_cases e : k = v
    · subst e; rw [up_self]; exact ⟨_, _, hi⟩
    · rw [up_ne _ _ e]
      obtain ⟨a, b, h⟩ := info k hk
      exact ⟨a, b, fr _ h fun q => e (ap.ii k hk v hv q)⟩
  · obtain ⟨a, b, h, i⟩ := succ k hk
    exact ⟨a, b, fr _ h (ap.il v hv k hk).symm, i⟩
  · have e : k ≠ v := fun q => hk (q ▸ hv)
    rw [up_ne _ _ e]; exact out k hk

theorem Srt.setSu {v : Int} {vs : List Value} {n : Nat} {ns : List Int} (S : Srt w X g np su rv p f) (hv : v ∈ g.ks) (hi : (g.la v, listO vs n) ∈ X') (hI : IntsAre vs ns) (fr : ∀ q ∈ X, q.1 ≠ g.la v → q ∈ X') : Srt w X' g np (up su v ns) rv p f := by
  obtain ⟨inst, ⟨t1', t2', t3, t4, tp, tf, attr⟩, ⟨o, dict, hD⟩, info, idic, succ, nd, rng, lo, ap, out⟩ := S
  refine ⟨fr _ inst (ap.sl v hv), ⟨t1', t2', t3, t4, tp, tf, fr _ attr (ap.dl v hv)⟩, ⟨o, fr _ dict (ap.nl v hv), hD⟩, fun k hk => ?_, fun k hk => fr _ (idic k hk) (ap.jl k hk v hv), fun k hk => ?_, nd, rng, lo, ap, fun k hk => ?_⟩
  · obtain ⟨a, b, h⟩ := info k hk
    exact ⟨a, b, fr _ h (ap.il k hk v hv)⟩
  · by_cases e : k = v
    · subst e; rw [up_self]; exact ⟨_, _, hi, hI⟩
    · rw [up_ne _ _ e]
      obtain ⟨a, b, h, i⟩ := succ k hk
      exact ⟨a, b, fr _ h (fun q => e (ap.ll k hk v hv q)), i⟩
  · have e : k ≠ v := fun q => hk (q ▸ hv)
    rw [up_ne _ _ e]; exact out k hk

theorem Srt.setAttr {rv' : Value} {p' f' : Int} {t1 t2 t3 t4 tp tf : Tok} (S : Srt w X g np su rv p f) (hi : (g.dx, attrO w g.n2 rv' p' tp f' tf t1 t2 t3 t4) ∈ X') (fr : ∀ q ∈ X, q.1 ≠ g.dx → q ∈ X') : Srt w X' g np su rv' p' f' := by
  obtain ⟨inst, _, ⟨o, dict, hD⟩, info, idic, succ, nd, rng, lo, ap, out⟩ := S
  refine ⟨fr _ inst ap.sd, ⟨t1, t2, t3, t4, tp, tf, hi⟩, ⟨o, fr _ dict ap.dn.symm, hD⟩, fun k hk => ?_, fun k hk => fr _ (idic k hk) (ap.dj k hk).symm, fun k hk => ?_, nd, rng, lo, ap, out⟩
  · obtain ⟨a, b, h⟩ := info k hk
    exact ⟨a, b, fr _ h (ap.di k hk).symm⟩
  · obtain ⟨a, b, h, i⟩ := succ k hk
    exact ⟨a, b, fr _ h (ap.dl k hk).symm, i⟩

theorem At.lt {a b : Addr} (S : Srt w X g np su rv p f) (hb : ∀ q ∈ X, q.1 < b) (h : At g a) : a < b := by
  obtain ⟨inst, ⟨t1, t2, t3, t4, tp, tf, attr⟩, ⟨o, dict, hD⟩, info, idic, succ, nd, rng, lo, ap, out⟩ := S
  rcases h with rfl | rfl | rfl | ⟨k, hk, rfl | rfl | rfl⟩
  · exact hb _ inst
  · exact hb _ attr
  · exact hb _ dict
  · obtain ⟨_, _, h⟩ := info k hk; exact hb _ h
  · exact hb _ (idic k hk)
  · obtain ⟨_, _, h, _⟩ := succ k hk; exact hb _ h

theorem Apart.add {v : Int} {i j l : Addr} (ap : Apart g) (lt : ∀ a, At g a → a < j) (hv : v ∉ g.ks) (hji : j < i) (hil : i < l) : Apart (g.add v i j l) := by
  have lt2 : ∀ a, At g a → a < i := fun a h => Nat.lt_trans (lt a h) hji
  have lt3 : ∀ a, At g a → a < l := fun a h => Nat.lt_trans (lt2 a h) hil
  have aI : ∀ k ∈ g.ks, At g (g.ia k) := fun k hk => .inr (.inr (.inr ⟨k, hk, .inl rfl⟩))
  have aJ : ∀ k ∈ g.ks, At g (g.ja k) := fun k hk => .inr (.inr (.inr ⟨k, hk, .inr (.inl rfl)⟩))
  have aL : ∀ k ∈ g.ks, At g (g.la k) := fun k hk => .inr (.inr (.inr ⟨k, hk, .inr (.inr rfl)⟩))
  have aS : At g g.sx := .inl rfl
  have aD : At g g.dx := .inr (.inl rfl)
  have aN : At g g.n2 := .inr (.inr (.inl rfl))
  have mem : ∀ {k : Int}, k ∈ g.ks ++ [v] → (k = v ∧ up g.ia v i k = i ∧ up g.ja v j k = j ∧ up g.la v l k = l) ∨ (k ∈ g.ks ∧ k ≠ v ∧ up g.ia v i k = g.ia k ∧ up g.ja v j k = g.ja k ∧ up g.la v l k = g.la k) := by
    intro k hk
    by_cases e : k = v
    · subst e; exact .inl ⟨rfl, up_self .., up_self .., up_self ..⟩
    · refine .inr ⟨?_, e, up_ne _ _ e, up_ne _ _ e, up_ne _ _ e⟩
      rcases List.mem_append.mp hk with h | h
      · exact h
      · exact absurd (List.mem_singleton.mp h) e
  have ne {a b : Addr} (h : a < b) : a ≠ b := Nat.ne_of_lt h
  refine ⟨ap.sd, ap.sn, ap.dn, ?_, ?_, ?_, ?_, ?_, ?_, ?_, ?_, ?_, ?_, ?_, ?_, ?_, ?_⟩
  · intro k hk; show g.sx ≠ up g.ia v i k
    rcases mem hk with ⟨_, h, _, _⟩ | ⟨hk, _, h, _, _⟩ <;> rw [h]
    · exact ne (lt2 _ aS)
    · exact ap.si k hk
  · intro k hk; show g.sx ≠ up g.ja v j k
    rcases mem hk with ⟨_, _, h, _⟩ | ⟨hk, _, _, h, _⟩ <;> rw [h]
    · exact ne (lt _ aS)
    · exact ap.sj k hk
  · intro k hk; show g.sx ≠ up g.la v l k
    rcases mem hk with ⟨_, _, _, h⟩ | ⟨hk, _, _, _, h⟩ <;> rw [h]
    · exact ne (lt3 _ aS)
    · exact ap.sl k hk
  · intro k hk; show g.dx ≠ up g.ia v i k
    rcases mem hk with ⟨_, h, _, _⟩ | ⟨hk, _, h, _, _⟩ <;> rw [h]
    · exact ne (lt2 _ aD)
    · exact ap.di k hk
  · intro k hk; show g.dx ≠ up g.ja v j k
    rcases mem hk with ⟨_, _, h, _⟩ | ⟨hk, _, _, h, _⟩ <;> rw [h]
    · exact ne (lt _ aD)
    · exact ap.dj k hk
  · intro k hk; show g.dx ≠ up g.la v l k
    rcases mem hk with ⟨_, _, _, h⟩ | ⟨hk, _, _, _, h⟩ <;> rw [h]
    · exact ne (lt3 _ aD)
    · exact ap.dl k hk
  · intro k hk; show g.n2 ≠ up g.ia v i k
    rcases mem hk with ⟨_, h, _, _⟩ | ⟨hk, _, h, _, _⟩ <;> rw [h]
    · exact ne (lt2 _ aN)
    · exact ap.ni k hk
  · intro k hk; show g.n2 ≠ up g.ja v j k
    rcases mem hk with ⟨_, _, h, _⟩ | ⟨hk, _, _, h, _⟩ <;> rw [h]
    · exact ne (lt _ aN)
    · exact ap.nj k hk
  · intro k hk; show g.n2 ≠ up g.la v l k
    rcases mem hk with ⟨_, _, _, h⟩ | ⟨hk, _, _, _, h⟩ <;> rw [h]
    · exact ne (lt3 _ aN)
    · exact ap.nl k hk
  · intro k hk k' hk' e
    have e : up g.ia v i k = up g.ia v i k' := e
    rcases mem hk with ⟨ek, h, _, _⟩ | ⟨hk, _, h, _, _⟩ <;> rcases mem hk' with ⟨ek', h', _, _⟩ | ⟨hk', _, h', _, _⟩ <;> rw [h, h'] at e
    · exact ek.trans ek'.symm
    · exact absurd e.symm (ne (lt2 _ (aI _ hk')))
    · exact absurd e (ne (lt2 _ (aI _ hk)))
    · exact ap.ii k hk k' hk' e
  · intro k hk k' hk' e
    have e : up g.la v l k = up g.la v l k' := e
    rcases mem hk with ⟨ek, _, _, h⟩ | ⟨hk, _, _, _, h⟩ <;> rcases mem hk' with ⟨ek', _, _, h'⟩ | ⟨hk', _, _, _, h'⟩ <;> rw [h, h'] at e
    · exact ek.trans ek'.symm
    · exact absurd e.symm (ne (lt3 _ (aL _ hk')))
    · exact absurd e (ne (lt3 _ (aL _ hk)))
    · exact ap.ll k hk k' hk' e
  · intro k hk k' hk'; show up g.ia v i k ≠ up g.ja v j k'
    rcases mem hk with ⟨rfl, h, _, _⟩ | ⟨hk, _, h, _, _⟩ <;> rcases mem hk' with ⟨e', _, h', _⟩ | ⟨hk', _, _, h', _⟩ <;> rw [h, h']
    · exact (ne hji).symm
    · exact (ne (lt2 _ (aJ _ hk'))).symm
    · exact ne (lt _ (aI _ hk))
    · exact ap.ij k hk k' hk'
  · intro k hk k' hk'; show up g.ia v i k ≠ up g.la v l k'
    rcases mem hk with ⟨rfl, h, _, _⟩ | ⟨hk, _, h, _, _⟩ <;> rcases mem hk' with ⟨e', _, _, h'⟩ | ⟨hk', _, _, _, h'⟩ <;> rw [h, h']
    · exact ne hil
    · exact (ne (lt2 _ (aL _ hk'))).symm
    · exact ne (lt3 _ (aI _ hk))
    · exact ap.il k hk k' hk'
  · intro k hk k' hk'; show up g.ja v j k ≠ up g.la v l k'
    rcases mem hk with ⟨rfl, _, h, _⟩ | ⟨hk, _, _, h, _⟩ <;> rcases mem hk' with ⟨e', _, _, h'⟩ | ⟨hk', _, _, _, h'⟩ <;> rw [h, h']
    · exact ne (Nat.lt_trans hji hil)
    · exact (ne (lt _ (aL _ hk'))).symm
    · exact ne (lt3 _ (aJ _ hk))
    · exact ap.jl k hk k' hk'

theorem Srt.add {v : Int} {i j l : Addr} {o : Obj} {t1 t2 : Tok} {n : Nat} (S : Srt w X g np su rv p f) (hv : v ∉ g.ks) (h0 : 0 ≤ v) (h6 : v < 6) (lt : ∀ q ∈ X, q.1 < j) (hji : j < i) (hil : i < l)
    (hn2 : (g.n2, o) ∈ X') (hD : o.IsDictOf (intKind PySem.Challenge.rw_mq0314_01.row.prog w) (stored (g.ks.map fun k => (k, Value.ref (g.ia k))) v (.ref i)))
    (hi : (i, infoO j v t1 0 t2 l) ∈ X') (hj : (j, dictOf [] 0) ∈ X') (hl : (l, listO [] n) ∈ X') (fr : ∀ q ∈ X, q.1 ≠ g.n2 → q ∈ X') : Srt w X' (g.add v i j l) np su rv p f := by
  have ap' := S.ap.add (fun a h => At.lt S lt h) hv hji hil
  obtain ⟨inst, ⟨t1', t2', t3, t4, tp, tf, attr⟩, ⟨o', dict, hD'⟩, info, idic, succ, nd, rng, lo, ap, out⟩ := S
  have mem : ∀ {k : Int}, k ∈ g.ks ++ [v] → k = v ∨ (k ∈ g.ks ∧ k ≠ v) := by
    intro k hk
    by_cases e : k = v
    · exact .inl e
    · refine .inr ⟨?_, e⟩
      rcases List.mem_append.mp hk with h | h
      · exact h
      · exact absurd (List.mem_singleton.mp h) e
  refine ⟨fr _ inst ap.sn, ⟨t1', t2', t3, t4, tp, tf, fr _ attr ap.dn⟩, ⟨o, hn2, ?_⟩, fun k hk => ?_, fun k hk => ?_, fun k hk => ?_, ?_, fun k hk => ?_, lo, ap', fun k hk => out k fun q => hk (List.mem_append_left _ q)⟩
  · rw [stored_out hv] at hD; exact hD
  · show ∃ t1 t2, (up g.ia v i k, infoO (up g.ja v j k) k t1 (np k) t2 (up g.la v l k)) ∈ X'
    rcases mem hk with rfl | ⟨hk, e⟩
    · rw [up_self, up_self, up_self, (out k hv).1]; exact ⟨_, _, hi⟩
    · rw [up_ne _ _ e, up_ne _ _ e, up_ne _ _ e]
      obtain ⟨a, b, h⟩ := info k hk
      exact ⟨a, b, fr _ h (ap.ni k hk).symm⟩
  · show (up g.ja v j k, dictOf [] 0) ∈ X'
    rcases mem hk with rfl | ⟨hk, e⟩
    · rw [up_self]; exact hj
    · rw [up_ne _ _ e]; exact fr _ (idic k hk) (ap.nj k hk).symm
  · show ∃ vs n, (up g.la v l k, listO vs n) ∈ X' ∧ IntsAre vs (su k)
    rcases mem hk with rfl | ⟨hk, e⟩
    · rw [up_self, (out k hv).2]; exact ⟨_, _, hl, .nil⟩
    · rw [up_ne _ _ e]
      obtain ⟨a, b, h, i⟩ := succ k hk
      exact ⟨a, b, fr _ h (ap.nl k hk).symm, i⟩
  · show (g.ks ++ [v]).Nodup
    refine List.nodup_append.mpr ⟨nd, by simp, fun a ha b hb e => ?_⟩
    rw [List.mem_singleton.mp hb] at e
    exact hv (e ▸ ha)
  · rcases mem hk with rfl | ⟨hk, e⟩
    · exact ⟨h0, h6⟩
    · exact rng k hk
end

/-- from the ledger X with the sorter g to X' with g': new addresses lie above X, what is not the sorter's stands -/
structure Grow (X X' : List (Addr × Obj)) (g g' : Sg) : Prop where
  sx : g'.sx = g.sx
  dx : g'.dx = g.dx
  n2 : g'.n2 = g.n2
  ks : ∀ k ∈ g.ks, k ∈ g'.ks
  ia : ∀ k ∈ g.ks, g'.ia k = g.ia k
  at_ : ∀ a, At g' a → At g a ∨ ∀ q ∈ X, q.1 < a
  mono : ∀ q ∈ X, ∃ o, (q.1, o) ∈ X'
  fr : ∀ q ∈ X, ¬ At g q.1 → q ∈ X'
section
variable {X X' X'' : List (Addr × Obj)} {g g' g'' : Sg}
theorem Grow.refl : Grow X X g g := ⟨rfl, rfl, rfl, fun _ h => h, fun _ _ => rfl, fun _ h => .inl h, fun q h => ⟨q.2, h⟩, fun _ h _ => h⟩
theorem Grow.notAt (G : Grow X X' g g') {q : Addr × Obj} (hq : q ∈ X) (h : ¬ At g q.1) : ¬ At g' q.1 := fun h' => (G.at_ _ h').elim h fun l => absurd (l q hq) (Nat.lt_irrefl _)
theorem Grow.trans (G : Grow X X' g g') (H : Grow X' X'' g' g'') : Grow X X'' g g'' := by
  refine ⟨H.sx.trans G.sx, H.dx.trans G.dx, H.n2.trans G.n2, fun k h => H.ks k (G.ks k h), fun k h => (H.ia k (G.ks k h)).trans (G.ia k h), fun a h => ?_, fun q h => ?_, fun q h n => H.fr q (G.fr q h n) (G.notAt h n)⟩
  · rcases H.at_ a h with h1 | h1
    · exact G.at_ a h1
    · exact .inr fun q hq => by obtain ⟨o, ho⟩ := G.mono q hq; exact h1 (q.1, o) ho
  · obtain ⟨o, ho⟩ := G.mono q h; exact H.mono (q.1, o) ho
theorem Grow.sub (h : ∀ q ∈ X, q ∈ X') : Grow X X' g g := ⟨rfl, rfl, rfl, fun _ h => h, fun _ _ => rfl, fun _ h => .inl h, fun q hq => ⟨q.2, h q hq⟩, fun q hq _ => h q hq⟩
theorem Grow.put {d : Addr} {o : Obj} (hd : At g d) : Grow X ((d, o) :: off d X) g g := by
  refine ⟨rfl, rfl, rfl, fun _ h => h, fun _ _ => rfl, fun _ h => .inl h, fun q hq => ?_, fun q hq n => .tail _ (mem_off hq fun e => n (e ▸ hd))⟩
  by_cases e : q.1 = d
  · exact ⟨o, by rw [e]; exact .head _⟩
  · exact ⟨q.2, .tail _ (mem_off hq e)⟩
theorem Grow.add {v : Int} {i j l : Addr} (hv : v ∉ g.ks) (lt : ∀ q ∈ X, q.1 < j) (hji : j < i) (hil : i < l) {o : Obj} (hn : (g.n2, o) ∈ X') (fr : ∀ q ∈ X, q.1 ≠ g.n2 → q ∈ X') : Grow X X' g (g.add v i j l) := by
  refine ⟨rfl, rfl, rfl, fun k h => List.mem_append_left _ h, fun k h => up_ne _ _ fun e => hv (e ▸ h), fun a h => ?_, fun q hq => ?_, fun q hq n => fr q hq fun e => n (.inr (.inr (.inl e)))⟩
  · have l2 : ∀ q ∈ X, q.1 < i := fun q hq => Nat.lt_trans (lt q hq) hji
    have l3 : ∀ q ∈ X, q.1 < l := fun q hq => Nat.lt_trans (l2 q hq) hil
    rcases h with rfl | rfl | rfl | ⟨k, hk, h⟩
    · exact .inl (.inl rfl)
    · exact .inl (.inr (.inl rfl))
    · exact .inl (.inr (.inr (.inl rfl)))
    · by_cases e : k = v
      · subst e
        have e1 : (g.add k i j l).ia k = i := up_self ..
        have e2 : (g.add k i j l).ja k = j := up_self ..
        have e3 : (g.add k i j l).la k = l := up_self ..
        rw [e1, e2, e3] at h
        rcases h with rfl | rfl | rfl
        · exact .inr l2
        · exact .inr lt
        · exact .inr l3
      · have e1 : (g.add v i j l).ia k = g.ia k := up_ne _ _ e
        have e2 : (g.add v i j l).ja k = g.ja k := up_ne _ _ e
        have e3 : (g.add v i j l).la k = g.la k := up_ne _ _ e
        rw [e1, e2, e3] at h
        have hk' : k ∈ g.ks := (List.mem_append.mp hk).elim id fun q => absurd (List.mem_singleton.mp q) e
        exact .inl (.inr (.inr (.inr ⟨k, hk', h⟩)))
  · by_cases e : q.1 = g.n2
    · exact ⟨o, by rw [e]; exact hn⟩
    · exact ⟨q.2, fr q hq e⟩
theorem At.ia {k : Int} (h : k ∈ g.ks) : At g (g.ia k) := .inr (.inr (.inr ⟨k, h, .inl rfl⟩))
theorem At.ja {k : Int} (h : k ∈ g.ks) : At g (g.ja k) := .inr (.inr (.inr ⟨k, h, .inr (.inl rfl)⟩))
theorem At.la {k : Int} (h : k ∈ g.ks) : At g (g.la k) := .inr (.inr (.inr ⟨k, h, .inr (.inr rfl)⟩))
theorem At.sx : At g g.sx := .inl rfl
theorem At.dx : At g g.dx := .inr (.inl rfl)
theorem At.n2 : At g g.n2 := .inr (.inr (.inl rfl))
end

theorem Grow.offI {X X' : List (Addr × Obj)} {g g' : Sg} {I : Addr} (G : Grow X X' g g') (h : ∀ q ∈ X, q.1 ≠ I) : Grow X (off I X') g g' := by
  refine ⟨G.sx, G.dx, G.n2, G.ks, G.ia, G.at_, fun q hq => ?_, fun q hq n => mem_off (G.fr q hq n) (h q hq)⟩
  obtain ⟨o, ho⟩ := G.mono q hq
  exact ⟨o, mem_off ho (h q hq)⟩
theorem At.mem {w : World} {X : List (Addr × Obj)} {g : Sg} {np : Int → Int} {su : Int → List Int} {rv : Value} {p f : Int} {a : Addr} (S : Srt w X g np su rv p f) (h : At g a) : ∃ o, (a, o) ∈ X := by
  obtain ⟨inst, ⟨t1, t2, t3, t4, tp, tf, attr⟩, ⟨o, dict, hD⟩, info, idic, succ, nd, rng, lo, ap, out⟩ := S
  rcases h with rfl | rfl | rfl | ⟨k, hk, rfl | rfl | rfl⟩
  · exact ⟨_, inst⟩
  · exact ⟨_, attr⟩
  · exact ⟨_, dict⟩
  · obtain ⟨_, _, h⟩ := info k hk; exact ⟨_, h⟩
  · exact ⟨_, idic k hk⟩
  · obtain ⟨_, _, h, _⟩ := succ k hk; exact ⟨_, h⟩
theorem At.off {w : World} {X : List (Addr × Obj)} {g : Sg} {np : Int → Int} {su : Int → List Int} {rv : Value} {p f : Int} {I : Addr} (S : Srt w X g np su rv p f) (h : ∀ q ∈ X, q.1 ≠ I) : ¬ At g I := fun q => by
  obtain ⟨o, ho⟩ := At.mem S q
  exact h _ ho rfl
theorem Srt.offI {w : World} {X : List (Addr × Obj)} {g : Sg} {np : Int → Int} {su : Int → List Int} {rv : Value} {p f : Int} {I : Addr} (S : Srt w X g np su rv p f) (h : ¬ At g I) : Srt w (off I X) g np su rv p f :=
  S.still fun q hq ha => mem_off hq fun e => h (e ▸ ha)
end
section
def Stop (P : Prop) : Prop := P
theorem Stop.out {P : Prop} (h : Stop P) : P := h
theorem Stop.in {P : Prop} (h : P) : Stop P := h

/-- a turn's end: the iterator and its sources stand, the word holds anew -/
def MyTurn (h₀ : Heap) (L : Addr) (I : Addr) (io : Obj) (src : List (Addr × Obj)) (J : (Str → Option Value) → List (Addr × Obj) → Prop) (s₁ : Shared) (Q : Flow → Shared → Prop) (f : Flow) (s₂ : Shared) : Prop :=
  match f with
  | .ret v => Q (.ret v) s₂
  | .brk => Q .next s₂
  | _ => ∃ h' tk m' Y, s₂ = { s₁ with heap := h', toks := tk } ∧ Fr h₀ L h' m' ∧ News h₀ L h' Y ∧ (I, io) ∈ Y ∧ (∀ p ∈ src, p ∈ Y) ∧ J m' (off I Y)
theorem MyTurn.next {h₀ h' : Heap} {L I : Addr} {io : Obj} {src : List (Addr × Obj)} {J : (Str → Option Value) → List (Addr × Obj) → Prop} {s₁ : Shared} {Q : Flow → Shared → Prop} {tk : Nat} {m' : Str → Option Value} {Y : List (Addr × Obj)}
    (F : Fr h₀ L h' m') (N : News h₀ L h' Y) (hi : (I, io) ∈ Y) (hs : ∀ p ∈ src, p ∈ Y) (hj : J m' (off I Y)) : MyTurn h₀ L I io src J s₁ Q .next { s₁ with heap := h', toks := tk } := ⟨h', tk, m', Y, rfl, F, N, hi, hs, hj⟩
theorem MyTurn.cont {h₀ h' : Heap} {L I : Addr} {io : Obj} {src : List (Addr × Obj)} {J : (Str → Option Value) → List (Addr × Obj) → Prop} {s₁ : Shared} {Q : Flow → Shared → Prop} {tk : Nat} {m' : Str → Option Value} {Y : List (Addr × Obj)}
    (F : Fr h₀ L h' m') (N : News h₀ L h' Y) (hi : (I, io) ∈ Y) (hs : ∀ p ∈ src, p ∈ Y) (hj : J m' (off I Y)) : MyTurn h₀ L I io src J s₁ Q .cont { s₁ with heap := h', toks := tk } := ⟨h', tk, m', Y, rfl, F, N, hi, hs, hj⟩

section
variable {prog : Program} {w : World} {A : Around} {E : Value → Shared → Prop} {env : Env} {h₀ : Heap} {x : Str} {body : List Stmt} {Q : Flow → Shared → Prop}

theorem loopAt {s₂ : Shared} {I : Addr} {src X : List (Addr × Obj)} {n : Nat} {P : Nat → Value → Prop} {St : Nat → Heap → Prop} {m₀ : Str → Option Value} (J : Nat → (Str → Option Value) → List (Addr × Obj) → Prop)
    (W : Walks prog w A I (I :: src.map (·.1)) [I] n P St) (live : ∀ i h, St i h → ∃ o, h.get? I = some o) (hsrc : ∀ p ∈ src, p ∈ X) (hI : ∀ p ∈ X, p.1 ≠ I) (hI0 : h₀.get? I = none) (hIL : I ≠ env.locals) (hst : St 0 s₂.heap)
    (F : Fr h₀ env.locals s₂.heap m₀) (N : News h₀ env.locals s₂.heap X) (hj : J 0 m₀ X)
    (turn : ∀ i v m₁ X₁ h tk io, i < n → P i v → J i m₁ X₁ → (∀ p ∈ X₁, p.1 ≠ I) → (∀ p ∈ src, p ∈ X₁) → Fr h₀ env.locals h (fun y => if y = x then some v else m₁ y) → News h₀ env.locals h ((I, io) :: X₁) →
      wpAny (model prog w) A (execs body env) (MyTurn h₀ env.locals I io src (J (i + 1)) { s₂ with heap := h, toks := tk } Q) E { s₂ with heap := h, toks := tk })
    (done : ∀ m₁ X₁ h tk, J n m₁ X₁ → (∀ p ∈ X₁, p.1 ≠ I) → (∀ p ∈ src, p ∈ X₁) → Fr h₀ env.locals h m₁ → News h₀ env.locals h X₁ → Q .next { s₂ with heap := h, toks := tk }) :
    LoopAtV prog w A h₀ env x body Q E (.ref I) s₂ := by
  let J' : Nat → (Str → Option Value) → List (Addr × Obj) → Prop := fun i m₁ X₁ => J i m₁ X₁ ∧ ∀ p ∈ src, p ∈ X₁
  refine ⟨I, _, _, n, P, St, m₀, X, J', rfl, W, ?_, ?_, ?_, hst, F, N, ⟨hj, hsrc⟩, ?_, ?_⟩
  · intro hm
    rcases List.mem_cons.mp hm with e | hm
    · exact hIL e.symm
    · obtain ⟨p, hp, e⟩ := List.mem_map.mp hm
      exact (N p (hsrc p hp)).2.1 e
  · intro b hb; rw [List.mem_singleton.mp hb]; exact hI0
  · intro p hp hb; exact hI p hp (List.mem_singleton.mp hb)
  · rintro i v m₁ X₁ s₁ own ⟨h, tk, rfl⟩ hi hP ⟨hJ, hs⟩ hoff hsub hget hall hst₁ F₁ N₁
    obtain ⟨io, hio⟩ := live _ _ hst₁
    have hI₁ : ∀ p ∈ X₁, p.1 ≠ I := fun p hp e => hoff p hp (by rw [e]; exact .head _)
    have hown : (I, io) ∈ own := hall I (.head _) hI0 io hio
    have N₂ : News h₀ env.locals h ((I, io) :: X₁) := fun p hp => by
      rcases List.mem_cons.mp hp with rfl | hp
      · exact N₁ _ (List.mem_append_left _ hown)
      · exact N₁ _ (List.mem_append_right _ hp)
    refine wpAny_mono (turn i v m₁ X₁ h tk io hi hP hJ hI₁ hs F₁ N₂) (fun f s₃ p => ?_) fun _ _ e => e
    have fin : (∃ h' tk' m' Y, s₃ = { s₂ with heap := h', toks := tk' } ∧ Fr h₀ env.locals h' m' ∧ News h₀ env.locals h' Y ∧ (I, io) ∈ Y ∧ (∀ p ∈ src, p ∈ Y) ∧ J (i + 1) m' (off I Y)) →
        LoopStepU h₀ env.locals [I] own (J' (i + 1)) { s₂ with heap := h, toks := tk } .next s₃ := by
      rintro ⟨h', tk', m', Y, rfl, F', N', hi', hs', hJ'⟩
      refine ⟨rfl, h', tk', m', off I Y, rfl, F', fun p hp => ?_, fun p hp hb => off_ne p hp (List.mem_singleton.mp hb), hJ', fun p hp => mem_off (hs' p hp) (hI p (hsrc p hp))⟩
      rcases List.mem_append.mp hp with hp | hp
      · rcases List.mem_cons.mp (hsub p hp) with e | hm
        · have : p = (I, io) := by
            have := hget p hp
            rw [e] at this
            have e2 : p.2 = io := Option.some.inj (this.symm.trans hio)
            exact Prod.ext e e2
          rw [this]; exact N' _ hi'
        · obtain ⟨q, hq, e⟩ := List.mem_map.mp hm
          have : p = q := by
            have h1 := hget p hp
            have h2 := (N₂ q (.tail _ (hs q hq))).1
            have e : q.1 = p.1 := e
            rw [← e] at h1
            exact Prod.ext e.symm (Option.some.inj (h1.symm.trans h2))
          rw [this]; exact N' _ (hs' q hq)
      · exact N' _ (of_off hp)
    cases f with
    | ret v => exact .ret p
    | brk => exact .brk p
    | next => exact .next (fin p)
    | cont => exact .cont (fin p)
  · rintro h' tk m' X' F' N' hoff ⟨hJ, hs⟩
    exact done m' X' h' tk hJ (fun p hp e => hoff p hp (by rw [e]; exact .head _)) hs F' N'

variable {s : Shared}
/-- the frame's names behind some turns: those of names may have turned -/
abbrev mapT (x : Str) (names : List Str) (u m₀ : Str → Option Value) : Str → Option Value := fun y => if (x :: names).contains y then u y else m₀ y
abbrev mapV (x : Str) (names : List Str) (v : Value) (u m₀ : Str → Option Value) : Str → Option Value := fun y => if y = x then some v else if names.contains y then u y else m₀ y
def Ag (names : List Str) (m m₀ : Str → Option Value) : Prop := ∀ y, names.contains y = false → m y = m₀ y
theorem Ag.map {names : List Str} {m m₀ : Str → Option Value} (h : Ag names m m₀) : m = fun y => if names.contains y then m y else m₀ y := by
  funext y
  cases e : names.contains y with
  | true => simp
  | false => simp; exact h y e
theorem Ag.refl {names : List Str} {m : Str → Option Value} : Ag names m m := fun _ _ => rfl
theorem Ag.toV {x : Str} {names : List Str} {m m₀ : Str → Option Value} {v : Value} (h : Ag (x :: names) m m₀) : (fun y => if y = x then some v else m y) = mapV x names v m m₀ := by
  funext y
  by_cases e : y = x
  · simp [e]
  · simp only [if_neg e, Mine.mapV]
    cases e2 : names.contains y with
    | true => simp
    | false => simp; exact h y (by rw [List.contains_cons, e2, Bool.or_false]; exact beq_false_of_ne e)

theorem iter_lst {l : Addr} {vs : List Value} {k : Nat} {m₀ : Str → Option Value} {X : List (Addr × Obj)} (names : List Str) (J : Nat → List (Addr × Obj) → Prop)
    (hh : A.handled = none) (F : Fr h₀ env.locals s.heap m₀) (N : News h₀ env.locals s.heap X) (hl : (l, listO vs k) ∈ X) (hj : J 0 X)
    (turn : ∀ i v u X₁ h tk I io, (∀ p ∈ X, p.1 < I) → vs[i]? = some v → J i X₁ → (∀ p ∈ X₁, p.1 ≠ I) → (l, listO vs k) ∈ X₁ → Fr h₀ env.locals h (mapV x names v u m₀) → News h₀ env.locals h ((I, io) :: X₁) →
      wpAny (model prog w) A (execs body env) (MyTurn h₀ env.locals I io [(l, listO vs k)] (fun m X' => Ag (x :: names) m m₀ ∧ J (i + 1) X') { s with heap := h, toks := tk } Q) E { s with heap := h, toks := tk })
    (done : ∀ u X₁ h tk, J vs.length X₁ → (l, listO vs k) ∈ X₁ → Fr h₀ env.locals h (mapT x names u m₀) → News h₀ env.locals h X₁ → Q .next { s with heap := h, toks := tk }) :
    wpAny (model prog w) A (pyIter (.ref l)) (fun it s₂ => LoopAtV prog w A h₀ env x body Q E it s₂) E s := by
  have hls : s.heap.IsList l vs.toArray := ⟨_, (N _ hl).1, rfl, k, rfl⟩
  have hlt := Heap.lt_size (N _ hl).1
  refine wpAny_pyIter_list hls ?_
  have W := Walks.list (prog := prog) (w := w) hh s.heap.objs.size l (Nat.ne_of_lt hlt) vs.toArray
  rw [List.size_toArray] at W
  refine loopAt (src := [(l, listO vs k)]) (s₂ := { s with heap := s.heap.push { cls := .type "list_iterator", data := .fields #[.ref l, .int 0 0] } }) (fun i m X' => Ag (x :: names) m m₀ ∧ J i X') W (fun i h st => let ⟨o, ho, _⟩ := st.1; ⟨o, ho⟩) (fun p hp => by rw [List.mem_singleton.mp hp]; exact hl)
    (fun p hp => Nat.ne_of_lt (Heap.lt_size (N p hp).1)) (next_is_new F) (Nat.ne_of_gt F.ns.lt) ⟨⟨_, Heap.get?_push_size _ rfl, rfl, rfl⟩, hls.at fun o e => Heap.get?_push_of_some _ e⟩ (F.push _)
    (fun p hp => ⟨Heap.get?_push_of_some _ (N p hp).1, (N p hp).2⟩) ⟨.refl, hj⟩ ?_ ?_
  · intro i v m₁ X₁ h tk io hi hP hJ hI hs F₁ N₁
    have hP' : vs[i]? = some v := by simpa using hP
    rw [hJ.1.toV] at F₁
    exact turn i v m₁ X₁ h tk _ io (fun p hp => Heap.lt_size (N p hp).1) hP' hJ.2 hI (hs _ (.head _)) F₁ N₁
  · intro m₁ X₁ h tk hJ _ hs F₁ N₁
    rw [hJ.1.map] at F₁
    exact done m₁ X₁ h tk hJ.2 (hs _ (.head _)) F₁ N₁

abbrev tupO (vs : List Value) (k : Nat) : Obj := { cls := .type "tuple", data := .seq vs.toArray k }
theorem iter_tupl {l : Addr} {vs : List Value} {k : Nat} {m₀ : Str → Option Value} {X : List (Addr × Obj)} (names : List Str) (J : Nat → List (Addr × Obj) → Prop)
    (hh : A.handled = none) (F : Fr h₀ env.locals s.heap m₀) (N : News h₀ env.locals s.heap X) (hl : (l, tupO vs k) ∈ X) (hj : J 0 X)
    (turn : ∀ i v u X₁ h tk I io, (∀ p ∈ X, p.1 < I) → vs[i]? = some v → J i X₁ → (∀ p ∈ X₁, p.1 ≠ I) → (l, tupO vs k) ∈ X₁ → Fr h₀ env.locals h (mapV x names v u m₀) → News h₀ env.locals h ((I, io) :: X₁) →
      wpAny (model prog w) A (execs body env) (MyTurn h₀ env.locals I io [(l, tupO vs k)] (fun m X' => Ag (x :: names) m m₀ ∧ J (i + 1) X') { s with heap := h, toks := tk } Q) E { s with heap := h, toks := tk })
    (done : ∀ u X₁ h tk, J vs.length X₁ → (l, tupO vs k) ∈ X₁ → Fr h₀ env.locals h (mapT x names u m₀) → News h₀ env.locals h X₁ → Q .next { s with heap := h, toks := tk }) :
    wpAny (model prog w) A (pyIter (.ref l)) (fun it s₂ => LoopAtV prog w A h₀ env x body Q E it s₂) E s := by
  have hls : s.heap.IsTuple l vs.toArray := ⟨_, (N _ hl).1, rfl, k, rfl⟩
  have hlt := Heap.lt_size (N _ hl).1
  refine iter_tuple hls ?_
  have W := Walks.tuple (prog := prog) (w := w) hh s.heap.objs.size l (Nat.ne_of_lt hlt) vs.toArray
  rw [List.size_toArray] at W
  refine loopAt (src := [(l, tupO vs k)]) (s₂ := { s with heap := s.heap.push { cls := .type "tuple_iterator", data := .fields #[.ref l, .int 0 0] } }) (fun i m X' => Ag (x :: names) m m₀ ∧ J i X') W (fun i h st => let ⟨o, ho, _⟩ := st.1; ⟨o, ho⟩) (fun p hp => by rw [List.mem_singleton.mp hp]; exact hl)
    (fun p hp => Nat.ne_of_lt (Heap.lt_size (N p hp).1)) (next_is_new F) (Nat.ne_of_gt F.ns.lt) ⟨⟨_, Heap.get?_push_size _ rfl, rfl, rfl⟩, hls.at fun o e => Heap.get?_push_of_some _ e⟩ (F.push _)
    (fun p hp => ⟨Heap.get?_push_of_some _ (N p hp).1, (N p hp).2⟩) ⟨.refl, hj⟩ ?_ ?_
  · intro i v m₁ X₁ h tk io hi hP hJ hI hs F₁ N₁
    have hP' : vs[i]? = some v := by simpa using hP
    rw [hJ.1.toV] at F₁
    exact turn i v m₁ X₁ h tk _ io (fun p hp => Heap.lt_size (N p hp).1) hP' hJ.2 hI (hs _ (.head _)) F₁ N₁
  · intro m₁ X₁ h tk hJ _ hs F₁ N₁
    rw [hJ.1.map] at F₁
    exact done m₁ X₁ h tk hJ.2 (hs _ (.head _)) F₁ N₁
end

section
variable {w : World} {f : Addr} {vs : List Value} {X : List (Addr × Obj)} {Post : Value → List (Addr × Obj) → Prop}
theorem Spec.use {loose : List Str} {mean : ExcName → Option Value} {mg mb : Str → Option Value} {dp un : Nat} {gd : Option (List Code)} {cn : Str} {cs : Scope} {a : Addr} {ccd : Value} {cl : List (Str × Addr)} {outer : List Env} {A₀ : Around} {base h₀ : Heap} {L : Addr} {m : Str → Option Value} {s : Shared}
    {Q E : Value → Shared → Prop} {lv : Nat} (C : Spec lv w f vs X Post) (B : Below A₀ base outer h₀) (F : Fr h₀ L s.heap m) (KX : (topF.heap_1 w.params).In h₀) (N : News h₀ L s.heap X) (T : Top vw loose mean mg mb h₀) (hk : cs.kind = .function) (hdp : dp + 10 * lv < 400) (hun : un + 50 * lv < 4000)
    (ret : ∀ r X' h' tk', Fr h₀ L h' m → News h₀ L h' X' → Post r X' → Q r { s with heap := h', toks := tk' }) :
    wpAny (model PySem.Challenge.rw_mq0314_01.row.prog w) (ktrTop dp un gd cn cs L a ccd cl outer) (call (.ref f) vs) Q E s := C _ _ _ _ _ _ _ _ _ _ _ _ _ _ _ _ _ _ _ _ _ B F KX N T hk hdp hun ret
end
theorem Ag.step {names : List Str} {m m₀ : Str → Option Value} {a : Str} {v : Option Value} (ha : names.contains a = true) (h : Ag names m m₀) : Ag names (fun y => if y = a then v else m y) m₀ := fun y hy => by
  have e : y ≠ a := fun q => by rw [q, ha] at hy; cases hy
  show (if y = a then v else m y) = m₀ y
  rw [if_neg e]; exact h y hy
theorem Ag.base {x : Str} {names : List Str} {v : Value} {u m₀ : Str → Option Value} : Ag (x :: names) (mapV x names v u m₀) m₀ := fun y hy => by
  rw [List.contains_cons] at hy
  have h := Bool.or_eq_false_iff.mp hy
  have e : y ≠ x := fun q => by rw [q] at h; simp at h
  show (if y = x then some v else if names.contains y then u y else m₀ y) = m₀ y
  rw [if_neg e, h.2]; rfl
section
variable {prog : Program} {w : World} {A : Around} {E : Value → Shared → Prop} {s : Shared} {h₀ : Heap} {L l : Addr} {X : List (Addr × Obj)} {vs : List Value} {k : Nat}
theorem isTup_of (N : News h₀ L s.heap X) (hm : (l, tupO vs k) ∈ X) : IsTup s.heap l vs.toArray := ⟨_, (N _ hm).1, rfl, k, rfl⟩
theorem isLst_of (N : News h₀ L s.heap X) (hm : (l, listO vs k) ∈ X) : s.heap.IsList l vs.toArray := ⟨_, (N _ hm).1, rfl, k, rfl⟩
theorem len_tupX {Q : Value → Shared → Prop} (N : News h₀ L s.heap X) (hm : (l, tupO vs k) ∈ X) (hz : vs.length ≤ 100000) (h : Q (.int vs.length (s.toks + 1)) { s with toks := s.toks + 1 + 1 }) :
    wpAny (model prog w) A (call (.builtin "len") [.ref l]) Q E s := PyProof.Rows.len_tuple (isTup_of N hm) (by rw [List.size_toArray]; omega) (by rw [List.size_toArray]; exact h)
theorem len_lstX {Q : Value → Shared → Prop} (N : News h₀ L s.heap X) (hm : (l, listO vs k) ∈ X) (hz : vs.length ≤ 100000) (h : Q (.int vs.length (s.toks + 1)) { s with toks := s.toks + 1 + 1 }) :
    wpAny (model prog w) A (call (.builtin "len") [.ref l]) Q E s := PyProof.Rows.len_list (isLst_of N hm) (by rw [List.size_toArray]; omega) (by rw [List.size_toArray]; exact h)
end
end
section
section
variable {prog : Program} {w : World} {A A₀ : Around} {s : Shared} {K : Frag} {L : Addr} {h₀ base : Heap} {m mg mb : Str → Option Value} {news : List (Addr × Obj)} {p : Program} {loose : List Str} {mean : ExcName → Option Value}
/-- entering a def with a star parameter, the surplus arguments of any number -/
theorem code_star {env : Env} {outer : List Env} {R : Result → Shared → Prop} {name qual : Str} {params : Arguments} {body : List Stmt} {scope : Scope} {dV kV doc pm cdv ct oc : Value} {an od : Option Addr} {osl : Array (Option Value)} {f : Addr} {args : Args} {vs : List Value} {binds : Value → List (Str × Value)}
    (B : Below A₀ base outer h₀) (F : Fr h₀ L s.heap m) (X₀ : K.In h₀) (N : News h₀ L s.heap news) (T : Top p loose mean mg mb h₀) (hA : A.frames = some (env :: outer)) (hf : env.frame = some L) (hke : env.scope.kind = .function)
    (ho : K.lookup f = some ⟨oc, od, .func (fnOf name qual params body scope dV kV doc pm an cdv ct), osl⟩) (hcd : codeIn K cdv qual = true) (hroom : A.depth < recursionLimit)
    (hb : bindArgs (fnOf name qual params body scope dV kV doc pm an cdv ct) args = newTuple vs >>= fun t => pure (binds t)) (hz : vs.length ≤ sizeLine)
    (hloc : ∀ D, ∀ y ∈ binds D, scope.names.lookup y.1 = some .local)
    (h : ∀ D g L' h₁, (∀ p ∈ news, p.1 < D) → Fr h₀ L g m → Fr g L' h₁ (fun y => (binds (.ref D)).reverse.lookup y) → News g L' h₁ ((D, tupO vs 0) :: news) → Below A base (env :: outer) g → K.In g → Top p loose mean mg mb g →
      wpAny (model prog w) (A.deeper (envOf qual scope L' f cdv)) (execs body (envOf qual scope L' f cdv))
        (fun fl s' => LeaveK h₀ L m g R (match fl with | .ret v => v | _ => .none) s')
        (fun e s' => wpAny (model prog w) (A.deeper (envOf qual scope L' f cdv)) (leaving (envOf qual scope L' f cdv) e) (fun _ s'' => R (.error e) s'') (fun e' s'' => R (.error e') s'') s')
        { s with heap := h₁, toks := s.toks + (binds (.ref D)).length })
    (hco : scope.isCoroutine = false) (hgen : scope.isGenerator = false) (hk : scope.kind = .function)
    (hcell : ∀ x ∈ scope.names, x.2 ≠ .cell) : codeAny (model prog w) A (.call (.ref f) args) R s := by
  refine codeAny_call_function (fd := fnOf name qual params body scope dV kV doc pm an cdv ct) (body := body) hroom ((X₀.keeps F.keep) _ _ ho) rfl hco hgen rfl (codeRec_of (X₀.keeps F.keep) hcd) ?_
  rw [hb]
  refine wpAny_bind (newTuple_N F N (fun h' F' N' => wpAny_pure ?_) hz)
  exact kp_frame (cl := []) (s := { s with heap := h' }) B F' N' T.nolimit hA hf hke (hloc _) (fun g L' h₁ FG FL NG BG st => h _ g L' h₁ (fun p hp => Heap.lt_size (N p hp).1) FG FL NG BG (X₀.keeps st) (T.keeps st)) hcell hk
end
theorem bind_star2 {name qual : Str} {body : List Stmt} {scope : Scope} {kV doc pm cdv ct : Value} {an : Option Addr} {p1 p2 p3 : Pos} {a b : Value} {ps : List Value} :
    bindArgs (fnOf name qual { posonlyargs := [], args := [{ arg := "self", annotation := none, pos := p1 }, { arg := "node", annotation := none, pos := p2 }], vararg := some { arg := "predecessors", annotation := none, pos := p3 }, kwonlyargs := [], kw_defaults := [], kwarg := none, defaults := [] } body scope .none kV doc pm an cdv ct) ⟨a :: b :: ps, []⟩ =
      newTuple ps >>= fun t => pure [(Str.ofString "self", a), (Str.ofString "node", b), (Str.ofString "predecessors", t)] := by
  unfold bindArgs
  simp only [Option.isNone, Bool.and_false, if_false, Bool.false_eq_true]
  rfl
theorem bind_star1 {name qual : Str} {body : List Stmt} {scope : Scope} {kV doc pm cdv ct : Value} {an : Option Addr} {p1 p3 : Pos} {a : Value} {ps : List Value} :
    bindArgs (fnOf name qual { posonlyargs := [], args := [{ arg := "self", annotation := none, pos := p1 }], vararg := some { arg := "nodes", annotation := none, pos := p3 }, kwonlyargs := [], kw_defaults := [], kwarg := none, defaults := [] } body scope .none kV doc pm an cdv ct) ⟨a :: ps, []⟩ =
      newTuple ps >>= fun t => pure [(Str.ofString "self", a), (Str.ofString "nodes", t)] := by
  unfold bindArgs
  simp only [Option.isNone, Bool.and_false, if_false, Bool.false_eq_true]
  rfl
end
section
theorem meets_bool_new_list (l : Addr) : Meets (Builtin.«bool.__new__» ⟨[.type "bool", .ref l], []⟩) (fun _ R s => ∃ items, s.heap.IsList l items ∧ (items.size : Int) < 2 ^ 63 ∧ R (.ok (.ret (.bool (!items.isEmpty)))) { s with toks := s.toks + 1 + 1 }) :=
  Meets.of_wp fun prog w A R s hs => by
    obtain ⟨hp, g, d, tk, os⟩ := s
    obtain ⟨items, hl, hf, hs⟩ := hs
    have f1 := F.conv_sub_bool
    repeat (any_goals (first | assumption | (with_reducible refine wpAny_truthy_list hl hf ?_) | wp_step))
    all_goals first | exact ⟨_, rfl, hs⟩ | exact hs | skip
section
variable {prog : Program} {w : World} {A : Around} {E : Value → Shared → Prop} {s : Shared} {h₀ : Heap} {L l : Addr} {X : List (Addr × Obj)} {vs : List Value} {k : Nat}
theorem call_bool_lst {Q : Value → Shared → Prop} (N : News h₀ L s.heap X) (hm : (l, listO vs k) ∈ X) (hz : vs.length ≤ 100000) (h : Q (.bool (decide (vs ≠ []))) { s with toks := s.toks + 1 + 1 }) :
    wpAny (model prog w) A (call (.type "bool") [.ref l]) Q E s := by
  have e : (!vs.toArray.isEmpty) = decide (vs ≠ []) := by cases vs <;> simp
  exact call_bool_1 (meets_bool_new_list l) ⟨vs.toArray, isLst_of N hm, by rw [List.size_toArray]; omega, by rw [e]; exact ⟨rfl, h⟩⟩
theorem truthy_lst {Q : Bool → Shared → Prop} (N : News h₀ L s.heap X) (hm : (l, listO vs k) ∈ X) (hz : vs.length ≤ 100000) (h : Q (decide (vs ≠ [])) { s with toks := s.toks + 1 + 1 }) :
    wpAny (model prog w) A (truthy (.ref l)) Q E s := by
  have e : (!vs.toArray.isEmpty) = decide (vs ≠ []) := by cases vs <;> simp
  exact wpAny_truthy_list (isLst_of N hm) (by rw [List.size_toArray]; omega) (by rw [e]; exact h)
end
section
variable {prog : Program} {w : World} {A : Around} {E : Value → Shared → Prop} {s : Shared} {h₀ : Heap} {L l : Addr} {m : Str → Option Value} {X : List (Addr × Obj)} {vs : List Value} {k : Nat}
theorem append_X {x : Value} {Q : Value → Shared → Prop} (F : Fr h₀ L s.heap m) (N : News h₀ L s.heap X) (hm : (l, listO vs k) ∈ X) (hz : vs.length ≤ 100000)
    (h : ∀ h', Fr h₀ L h' m → News h₀ L h' ((l, listO (vs ++ [x]) (k + 1)) :: off l X) → Q .none { s with heap := h' }) : wpAny (model prog w) A (call (.builtin "list.append") [.ref l, x]) Q E s :=
  append_K F (focus N hm) (.head off_ne) (fun h' F' N' => h h' F' (by rw [List.push_toArray] at N'; exact N')) (by rw [List.size_toArray, sizeLine_eq]; omega)
theorem clear_X {Q : Value → Shared → Prop} (F : Fr h₀ L s.heap m) (N : News h₀ L s.heap X) (hm : (l, listO vs k) ∈ X) (hz : vs.length ≤ 100000)
    (h : ∀ h' k', Fr h₀ L h' m → News h₀ L h' ((l, listO [] k') :: off l X) → Q .none { s with heap := h' }) : wpAny (model prog w) A (call (.builtin "list.clear") [.ref l]) Q E s := by
  have z := N _ hm
  refine call_meets PySem.F.slot_list_clear ⟨_, z.1, rfl⟩ PySem.F.entry_list_clear (PySem.F.args_list_clear_1 _) (PySem.AutoSeq1.list_clear_list_0 l vs.toArray k (by rw [List.size_toArray, sizeLine_eq]; omega))
    ⟨z.1, h _ (if (#[] : Array Value).size == vs.toArray.size then k else k + 1) (F.change (Heap.SameBut.update ..) z.2.1 z.2.2) ?_⟩
  have N' := focus N hm
  exact news_set (pre := []) N' (fun _ hp => nomatch hp) off_ne (Heap.SameBut.update ..) (Heap.get?_update_self _ z.1 rfl)
theorem pop_X {x : Value} {Q : Value → Shared → Prop} (F : Fr h₀ L s.heap m) (N : News h₀ L s.heap X) (hm : (l, listO (vs ++ [x]) k) ∈ X) (hz : vs.length ≤ 100000)
    (h : ∀ h', Fr h₀ L h' m → News h₀ L h' ((l, listO vs (k + 1)) :: off l X) → Q x { s with heap := h' }) : wpAny (model prog w) A (call (.builtin "list.pop") [.ref l]) Q E s :=
  kl_pop F (focus N hm) (p := vs) (y := x) (kpa_last x vs) (.head off_ne) (by show (vs ++ [x]).length ≤ _; rw [List.length_append, sizeLine_eq]; simp; omega) h
theorem cut_at {p q : List Value} {y : Value} : kl_cut (p ++ y :: q) p.length = some (p, y, q) := by
  induction p with
  | nil => rfl
  | cons a p ih => show (match kl_cut (p ++ y :: q) p.length with | some (p, y, q) => some (a :: p, y, q) | none => none) = _; rw [ih]
theorem popAt_X {i : Int} {u : Tok} {p q : List Value} {x : Value} {Q : Value → Shared → Prop} (F : Fr h₀ L s.heap m) (N : News h₀ L s.heap X) (hm : (l, listO (p ++ x :: q) k) ∈ X) (hi : i = p.length) (hz : (p ++ x :: q).length ≤ 100000)
    (h : ∀ h', Fr h₀ L h' m → News h₀ L h' ((l, listO (p ++ q) (k + 1)) :: off l X) → Q x { s with heap := h' }) : wpAny (model prog w) A (call (.builtin "list.pop") [.ref l, .int i u]) Q E s := by
  subst hi
  have hl : (p ++ x :: q).length = p.length + q.length + 1 := by simp; omega
  refine kl_popAt F (focus N hm) (k := p.length) (p := p) (q := q) (y := x) ?_ ?_ cut_at (.head off_ne) (by show (p ++ x :: q).length ≤ _; rw [sizeLine_eq]; omega) h
  · unfold Builtin.List.listFitsIndex
    simp only [Bool.and_eq_true, decide_eq_true_eq]
    omega
  · rw [List.size_toArray, hl]
    unfold seqIndex?
    have h0 : ¬ ((p.length : Int) < 0) := by omega
    have h1 : (decide ((0 : Int) ≤ (p.length : Int)) && decide ((p.length : Int) < ((p.length + q.length + 1 : Nat) : Int))) = true := by
      simp only [Bool.and_eq_true, decide_eq_true_eq]; omega
    simp only [if_neg h0, h1, if_true, Int.toNat_natCast]
theorem tuple_X {Q : Value → Shared → Prop} (F : Fr h₀ L s.heap m) (N : News h₀ L s.heap X) (hm : (l, listO vs k) ∈ X) (hz : vs.length ≤ 10000)
    (h : ∀ D h', Fr h₀ L h' m → News h₀ L h' ((D, tupO vs 0) :: X) → (∀ p ∈ X, p.1 < D) → Q (.ref D) { s with heap := h' }) : wpAny (model prog w) A (call (.type "tuple") [.ref l]) Q E s :=
  kde_tupleOf F N (isLst_of N hm) (by rw [List.size_toArray]; omega) rfl h
theorem listT_X {Q : Value → Shared → Prop} (F : Fr h₀ L s.heap m) (N : News h₀ L s.heap X) (hm : (l, tupO vs k) ∈ X) (hz : vs.length ≤ 10000)
    (h : ∀ D c h', Fr h₀ L h' m → News h₀ L h' ((D, listO vs c) :: X) → (∀ p ∈ X, p.1 < D) → Q (.ref D) { s with heap := h' }) : wpAny (model prog w) A (call (.type "list") [.ref l]) Q E s :=
  list_copyKT F N (isTup_of N hm) h (by rw [List.size_toArray, sizeLine_eq]; omega)
theorem item_X {value slice : Expr} {i : Int} {u : Tok} {x : Value} {Q : Value → Shared → Prop} (N : News h₀ L s.heap X) (hm : (l, listO vs k) ∈ X) (h0 : 0 ≤ i) (h1 : i < 100000) (hx : vs[i.toNat]? = some x) (h : Q x s)
    (hs : subscripted slice false (.ref l) (.int i u) = operate [.ref l, .int i u] (getItem (.ref l) (.int i u)) := by with_unfolding_all rfl) :
    wpAny (model prog w) A (subscriptTail value slice (.ref l) (.int i u)) Q E s :=
  have hl := isLst_of N hm
  tail_any hl.typeIs slot_list_getitem.lookup (wpAny_getItem_list hl h0 (by omega) (by simpa using hx) h) hs
end

theorem kda_getItem {prog : Program} {w : World} {A : Around} {E : Value → Shared → Prop} {s : Shared} {h₀ : Heap} {L d : Addr} {X : List (Addr × Obj)} {o : Obj} {kvs : List (Int × Value)} {i : Int} {t : Tok} {v : Value} {Q : Value → Shared → Prop} (N : News h₀ L s.heap X) (hp : (d, o) ∈ X) (hd : o.IsDictOf (intKind prog w) kvs) (hl : valueAt kvs i = some v)
    (h : Q v { s with toks := s.toks + 1 }) : wpAny (model prog w) A (getItem (.ref d) (.int i t)) Q E s := wpAny_getItem_of (intKind_is _ _ _ _) (kda_dict N hp hd).mapOf hl h
abbrev viewO (d : Addr) : Obj := { cls := .type "dict_values", data := .fields #[.ref d] }
section
variable {prog : Program} {w : World} {A : Around} {E : Value → Shared → Prop} {s : Shared} {h₀ : Heap} {L d : Addr} {m : Str → Option Value} {X : List (Addr × Obj)} {o : Obj} {kvs : List (Int × Value)}
theorem values_X {Q : Value → Shared → Prop} (F : Fr h₀ L s.heap m) (N : News h₀ L s.heap X) (hm : (d, o) ∈ X) (hD : o.IsDictOf (intKind prog w) kvs) (lo : (d == sysModules) = false)
    (h : ∀ V h', Fr h₀ L h' m → News h₀ L h' ((V, viewO d) :: X) → (∀ p ∈ X, p.1 < V) → Q (.ref V) { s with heap := h' }) : wpAny (model prog w) A (call (.builtin "dict.values") [.ref d]) Q E s :=
  have hd := kda_dict N hm hD
  call_meetsIn PySem.F.slot_dict_values hd.typeIs PySem.F.entry_dict_values (PySem.F.args_dict_values_1 _) (meets_dict_values (intKind prog w) d lo) ⟨⟨kvs, hd⟩, h _ _ (F.push _) (News.push F N _) fun p hp => Heap.lt_size (N p hp).1⟩
end
theorem comp_vals {prog : Program} {w : World} {A : Around} {E : Value → Shared → Prop} {s : Shared} {env : Env} {scope : Scope} {x : Str} {ifs : List Expr} {elt : Expr} {Q : Value → Shared → Prop} {h₀ : Heap} {m : Str → Option Value} {X : List (Addr × Obj)} {V d : Addr} {o : Obj} {kvs : List (Int × Value)}
    (p : Value → Bool) (F : Value → Value → Prop) (hh : A.handled = none) (FF : Fr h₀ env.locals s.heap m) (N : News h₀ env.locals s.heap X) (hV : (V, viewO d) ∈ X) (hm : (d, o) ∈ X) (hD : o.IsDictOf (intKind prog w) kvs) (hz : kvs.length ≤ 1000)
    (tests : ∀ C (i : Nat) k v s₃ m₃ E', kvs[i]? = some (k, v) → s₃.heap.Ns C m₃ → m₃ x = some v → Fr h₀ env.locals s₃.heap m → News h₀ env.locals s₃.heap X →
      wpAny (model prog w) A (forIn ifs true fun c r => if r = true then do let ok ← isTrue c (compEnv scope C env) (eval c (compEnv scope C env)); pure (ForInStep.yield ok) else pure (ForInStep.yield r)) (fun ok s₄ => ok = p v ∧ Keeps s₃ s₄) E' s₃)
    (eltH : ∀ C (i : Nat) k v s₃ m₃ E', kvs[i]? = some (k, v) → p v = true → s₃.heap.Ns C m₃ → m₃ x = some v → Fr h₀ env.locals s₃.heap m → News h₀ env.locals s₃.heap X → wpAny (model prog w) A (eval elt (compEnv scope C env)) (fun y s₄ => F v y ∧ Keeps s₃ s₄) E' s₃)
    (done : ∀ D h' tk ys k, Fr h₀ env.locals h' m → News h₀ env.locals h' ((D, listO ys k) :: X) → (∀ q ∈ X, q.1 ≠ D) → Paired F ((kvs.map (·.2)).filter p) ys → Q (.ref D) { s with heap := h', toks := tk }) :
    wpAny (model prog w) A (pyIter (.ref V)) (CompPost prog w A env scope x ifs elt Q) E s := by
  obtain ⟨es, ep, hx, hdat, hk, hp, hn⟩ := hD
  have hAt : s.heap.DictAt (intKind prog w) d kvs ep := ⟨o, es, (N _ hm).1, hx, hdat, hk, hp, hn⟩
  refine wpAny_pyIter_values ⟨_, (N _ hV).1, rfl, rfl⟩ hAt ?_
  have hlt := Heap.lt_size (N _ hm).1
  have W := Walks.dictValues (prog := prog) (w := w) (knd := intKind prog w) hh s.heap.objs.size d (Nat.ne_of_lt hlt) kvs ep
  have old : ∀ b ob, s.heap.get? b = some ob → b ∉ [s.heap.objs.size] := fun b ob e hb => absurd (Heap.lt_size e) (by rw [List.mem_singleton.mp hb]; exact Nat.lt_irrefl _)
  have push : ∀ b ob, s.heap.get? b = some ob → (s.heap.push { cls := .type "dict_valueiterator", data := .fields #[.ref d, .int 0 0, .int kvs.length 0, .int ep 0] }).get? b = some ob := fun b ob e => Heap.get?_push_of_some _ e
  have lift : ∀ h' : Heap, (∀ b ob, b ∉ [s.heap.objs.size] → (s.heap.push { cls := .type "dict_valueiterator", data := .fields #[.ref d, .int 0 0, .int kvs.length 0, .int ep 0] }).get? b = some ob → h'.get? b = some ob) → Fr h₀ env.locals h' m ∧ News h₀ env.locals h' X := fun h' hk' =>
    ⟨FF.keeps fun b ob e => hk' b ob (old b ob e) (push b ob e), fun q hq => ⟨hk' _ _ (old _ _ (N q hq).1) (push _ _ (N q hq).1), (N q hq).2⟩⟩
  refine ⟨p, F, _, _, _, _, _, _, rfl, W, by rw [sizeLine_eq]; omega, ⟨⟨_, Heap.get?_push_size _ rfl, rfl, rfl⟩, hAt.at' fun ob e => push _ _ e⟩, ?_, ⟨?_, ?_⟩, ?_⟩
  · intro b hb
    show b < (s.heap.push _).objs.size
    rw [Heap.size_push]
    rcases List.mem_cons.mp hb with rfl | hb
    · exact Nat.lt_succ_self _
    · rw [List.mem_singleton.mp hb]; exact Nat.lt_succ_of_lt hlt
  · rintro C i v s₃ m₃ E' ⟨k, hkv⟩ hns hmx hk' _
    obtain ⟨F', N'⟩ := lift s₃.heap hk'
    exact tests C i k v s₃ m₃ E' hkv hns hmx F' N'
  · rintro C i v s₃ m₃ E' ⟨k, hkv⟩ hpv hns hmx hk' _
    obtain ⟨F', N'⟩ := lift s₃.heap hk'
    exact eltH C i k v s₃ m₃ E' hkv hpv hns hmx F' N'
  · intro D h' tk ys vs hD hl hpl hlen hP hF hk'
    obtain ⟨F', N'⟩ := lift h' hk'
    have hDs : s.heap.get? D = none := by
      cases e : s.heap.get? D with
      | none => rfl
      | some ob => have := push _ _ e; rw [hD] at this; cases this
    have hvs : vs = kvs.map (·.2) := by
      apply List.ext_getElem?
      intro j
      cases e : vs[j]? with
      | some v =>
        obtain ⟨k, hkv⟩ := hP j v e
        rw [List.getElem?_map, hkv]; rfl
      | none =>
        have h1 : vs.length ≤ j := List.getElem?_eq_none_iff.mp e
        exact (List.getElem?_eq_none_iff.mpr (by rw [List.length_map]; omega)).symm
    subst hvs
    obtain ⟨n, hpl⟩ := hpl
    refine done D h' tk ys.toList n F' (fun q hq => ?_) (fun q hq e => ?_) hF
    · rcases List.mem_cons.mp hq with rfl | hq
      · refine ⟨by simpa using hpl, fun e => ?_, ?_⟩
        · obtain ⟨oL, _, _, hL, _⟩ := FF.ns
          have e : D = env.locals := e
          rw [← e, hDs] at hL; cases hL
        · cases e : h₀.get? D with
          | none => rfl
          | some ob => have := FF.keep _ _ e; rw [hDs] at this; cases this
      · exact N' q hq
    · have := (N q hq).1
      rw [e, hDs] at this; cases this
end
section
/-- the body of a def has come to its end -/
def LeaveU (P : Prop) : Prop := P
section
variable {prog : Program} {w : World} {A : Around} {s : Shared} {K : Frag} {L : Addr} {h₀ : Heap} {m mg mb : Str → Option Value} {news : List (Addr × Obj)} {p : Program} {loose : List Str} {mean : ExcName → Option Value}
/-- entering a def, the caller's frame laid open in the ledger -/
theorem code_defU {R : Result → Shared → Prop} {name qual : Str} {params : Arguments} {body : List Stmt} {scope : Scope} {dV kV doc pm cdv ct oc : Value} {an od : Option Addr} {osl : Array (Option Value)} {f : Addr} {args : Args} {binds : List (Str × Value)}
    (F : Fr h₀ L s.heap m) (X₀ : K.In h₀) (N : News h₀ L s.heap news) (T : Top p loose mean mg mb h₀)
    (ho : K.lookup f = some ⟨oc, od, .func (fnOf name qual params body scope dV kV doc pm an cdv ct), osl⟩) (hcd : codeIn K cdv qual = true) (hroom : A.depth < recursionLimit)
    (hbind : BindsTo s (fnOf name qual params body scope dV kV doc pm an cdv ct) args binds) (hloc : ∀ y ∈ binds, scope.names.lookup y.1 = some .local)
    (h : ∀ oL L' h₁, TI.Caller h₀ L m oL → (∀ p ∈ news, p.1 ≠ L) → Fr h₀ L' h₁ (fun y => binds.reverse.lookup y) → News h₀ L' h₁ ((L, oL) :: news) →
      wpAny (model prog w) (A.deeper (envOf qual scope L' f cdv)) (execs body (envOf qual scope L' f cdv))
        (fun fl s' => LeaveU (R (.ok (.ret (match fl with | .ret v => v | _ => .none))) s'))
        (fun e s' => wpAny (model prog w) (A.deeper (envOf qual scope L' f cdv)) (leaving (envOf qual scope L' f cdv) e) (fun _ s'' => R (.error e) s'') (fun e' s'' => R (.error e') s'') s')
        { s with heap := h₁, toks := s.toks + binds.length })
    (hco : scope.isCoroutine = false) (hgen : scope.isGenerator = false) (hk : scope.kind = .function)
    (hcell : ∀ x ∈ scope.names, x.2 ≠ .cell) : codeAny (model prog w) A (.call (.ref f) args) R s := by
  have X := X₀.keeps F.keep
  obtain ⟨oL, es, ep, hL, hLd, hLk, hLf⟩ := F.ns
  have hLt := Heap.lt_size hL
  refine codeAny_call_def (fd := fnOf name qual params body scope dV kV doc pm an cdv ct) (body := body) (binds := binds) hroom (X _ _ ho) rfl (T.nolimit.keeps F.keep) (codeRec_of X hcd) rfl hbind hcell hloc (fun h₁ hns hk₁ => ?_) hco hgen hk
  have up : ∀ b o, s.heap.get? b = some o → h₁.get? b = some o := fun b o e => hk₁ b o e
  refine h oL s.heap.objs.size h₁ ⟨fun h' sl e => ⟨_, es, ep, e, hLd, hLk, hLf⟩, ⟨es, ep, hLd⟩, F.above⟩ (fun p hp => (N p hp).2.1)
    ⟨hns, fun b o e => up b o (F.keep b o e), Nat.le_trans F.above (Nat.le_of_lt hLt)⟩ (fun p hp => ?_)
  rcases List.mem_cons.mp hp with rfl | hp
  · exact ⟨up _ _ hL, Nat.ne_of_lt hLt, Heap.get?_none_of_le F.above⟩
  · obtain ⟨h1, h2, h3⟩ := N p hp
    exact ⟨up _ _ h1, Nat.ne_of_lt (Heap.lt_size h1), h3⟩
end
/-- a contract of a def in whose body an error is raised and caught: the callers' frames lie open in the ledger, their slots may change -/
def SpecU (lv : Nat) (w : World) (f : Addr) (vs : List Value) (X : List (Addr × Obj)) (outer : List Env) (frs : List (Addr × Obj)) (Post : Value → List (Addr × Obj) → List (Addr × Obj) → Prop) : Prop :=
  ∀ (loose : List Str) (mean : ExcName → Option Value) (mg mb : Str → Option Value) (dp un : Nat) (gd : Option (List Code)) (cn : Str) (cs : Scope) (a : Addr) (ccd : Value) (cl : List (Str × Addr)) (h₀ : Heap) (L : Addr) (m : Str → Option Value) (s : Shared)
    (Q E : Value → Shared → Prop),
    Fr h₀ L s.heap m → (topF.heap_1 w.params).In h₀ → News h₀ L s.heap X → Top vw loose mean mg mb h₀ → cs.kind = .function → dp + 10 * lv < 400 → un + 50 * lv < 4000 →
    (∀ r X' frs' h' tk', Fr h₀ L h' m → News h₀ L h' X' → TI.SameUp frs frs' → (∀ q ∈ frs', q ∈ X') → Post r X' frs' → Q r { s with heap := h', toks := tk' }) →
    wpAny (model PySem.Challenge.rw_mq0314_01.row.prog w) (ktrTop dp un gd cn cs L a ccd cl outer) (call (.ref f) vs) Q E s

def WStep (h₀ : Heap) (L : Addr) (s : Shared) (J : Nat → (Str → Option Value) → List (Addr × Obj) → Prop) (n : Nat) (Q : Flow → Shared → Prop) (f : Flow) (s₃ : Shared) : Prop :=
  match f with
  | .ret v => Q (.ret v) s₃
  | .brk => Q .next s₃
  | _ => ∃ h' tk m₂ news₂ n', s₃ = { s with heap := h', toks := tk } ∧ Fr h₀ L h' m₂ ∧ News h₀ L h' news₂ ∧ n' < n ∧ J n' m₂ news₂
section
variable {prog : Program} {w : World} {A : Around} {E : Value → Shared → Prop} {Q : Flow → Shared → Prop} {s : Shared} {env : Env} {h₀ : Heap} {L : Addr}
theorem WStep.next {h' : Heap} {J : Nat → (Str → Option Value) → List (Addr × Obj) → Prop} {n n' tk : Nat} {m₂ : Str → Option Value} {news₂ : List (Addr × Obj)}
    (F : Fr h₀ L h' m₂) (N : News h₀ L h' news₂) (hn : n' < n) (hJ : J n' m₂ news₂) : WStep h₀ L s J n Q .next { s with heap := h', toks := tk } := ⟨h', tk, m₂, news₂, n', rfl, F, N, hn, hJ⟩
theorem While_J {test : Expr} {body orelse : List Stmt} {pos : Pos} {m : Str → Option Value} {news : List (Addr × Obj)} (J : Nat → (Str → Option Value) → List (Addr × Obj) → Prop) (n₀ : Nat)
    (F : Fr h₀ L s.heap m) (N : News h₀ L s.heap news) (hJ : J n₀ m news)
    (turn : ∀ n m₁ news₁ h₁ tk₁, Fr h₀ L h₁ m₁ → News h₀ L h₁ news₁ → J n m₁ news₁ →
      wpAny (model prog w) A (isTrue test env (eval test env)) (fun b s₂ =>
        if b = true then wpAny (model prog w) A (execs body env) (WStep h₀ L s J n Q) E s₂ else wpAny (model prog w) A (execs orelse env) Q E s₂) E { s with heap := h₁, toks := tk₁ })
    (hE : PassesOwn (model prog w) A env E := by passes_own) :
    wpAny (model prog w) A (exec (.While test body orelse pos) env) Q E s := by
  refine wpAny_While (codeAny_whileLoop (fun n s' => ∃ h₁ tk₁ m₁ news₁, s' = { s with heap := h₁, toks := tk₁ } ∧ Fr h₀ L h₁ m₁ ∧ News h₀ L h₁ news₁ ∧ J n m₁ news₁) ?_ n₀ ⟨s.heap, s.toks, m, news, rfl, F, N, hJ⟩)
  rintro n s' ⟨h₁, tk₁, m₁, news₁, rfl, F₁, N₁, J₁⟩
  refine wpAny_mono (turn n m₁ news₁ h₁ tk₁ F₁ N₁ J₁) (fun b s₂ h₂ => ?_) hE
  cases b with
  | false =>
    simp only [Bool.false_eq_true, if_false] at h₂ ⊢
    exact wpAny_mono h₂ (fun _ _ x => x) hE
  | true =>
    simp only [if_true] at h₂ ⊢
    refine wpAny_mono h₂ (fun f s₃ h₃ => ?_) hE
    cases f with
    | ret v => exact h₃
    | brk => exact h₃
    | next =>
      obtain ⟨h', tk, m₂, news₂, n', rfl, F₂, N₂, hn, J₂⟩ := h₃
      exact ⟨n', hn, h', tk, m₂, news₂, rfl, F₂, N₂, J₂⟩
    | cont =>
      obtain ⟨h', tk, m₂, news₂, n', rfl, F₂, N₂, hn, J₂⟩ := h₃
      exact ⟨n', hn, h', tk, m₂, news₂, rfl, F₂, N₂, J₂⟩
end
section
variable {prog : Program} {w : World} {A : Around} {E : Value → Shared → Prop} {env : Env} {h₀ : Heap} {x : Str} {body : List Stmt} {Q : Flow → Shared → Prop} {s : Shared}
/-- a loop over a dict's keys, all ints -/
theorem iter_keys {d : Addr} {o : Obj} {kvs : List (Int × Value)} {m₀ : Str → Option Value} {X : List (Addr × Obj)} (J : Nat → (Str → Option Value) → List (Addr × Obj) → Prop)
    (hh : A.handled = none) (F : Fr h₀ env.locals s.heap m₀) (N : News h₀ env.locals s.heap X) (hl : (d, o) ∈ X) (hD : o.IsDictOf (intKind prog w) kvs) (lo : (d == sysModules) = false) (hj : J 0 m₀ X)
    (turn : ∀ i k t m₁ X₁ h tk I io, (∀ p ∈ X, p.1 < I) → k ∈ kvs.map (·.1) → J i m₁ X₁ → (∀ p ∈ X₁, p.1 ≠ I) → (d, o) ∈ X₁ → Fr h₀ env.locals h (fun y => if y = x then some (.int k t) else m₁ y) → News h₀ env.locals h ((I, io) :: X₁) →
      wpAny (model prog w) A (execs body env) (MyTurn h₀ env.locals I io [(d, o)] (J (i + 1)) { s with heap := h, toks := tk } Q) E { s with heap := h, toks := tk })
    (done : ∀ m₁ X₁ h tk, J kvs.length m₁ X₁ → Fr h₀ env.locals h m₁ → News h₀ env.locals h X₁ → Q .next { s with heap := h, toks := tk }) :
    wpAny (model prog w) A (pyIter (.ref d)) (fun it s₂ => LoopAtV prog w A h₀ env x body Q E it s₂) E s := by
  obtain ⟨es, ep, hx, hdat, hk, hp, hn⟩ := hD
  have hAt : s.heap.DictAt (intKind prog w) d kvs ep := ⟨o, es, (N _ hl).1, hx, hdat, hk, hp, hn⟩
  have hlt := Heap.lt_size (N _ hl).1
  refine wpAny_pyIter_dict lo hAt ?_
  have W := Walks.dictKeys (prog := prog) (w := w) (knd := intKind prog w) hh s.heap.objs.size d (Nat.ne_of_lt hlt) kvs ep
  refine loopAt (src := [(d, o)]) (s₂ := { s with heap := s.heap.push { cls := .type "dict_keyiterator", data := .fields #[.ref d, .int 0 0, .int kvs.length 0, .int ep 0] } }) J W (fun i h st => let ⟨o, ho, _⟩ := st.1; ⟨o, ho⟩) (fun p hp => by rw [List.mem_singleton.mp hp]; exact hl)
    (fun p hp => Nat.ne_of_lt (Heap.lt_size (N p hp).1)) (next_is_new F) (Nat.ne_of_gt F.ns.lt) ⟨⟨_, Heap.get?_push_size _ rfl, rfl, rfl⟩, hAt.at' fun o e => Heap.get?_push_of_some _ e⟩ (F.push _)
    (fun p hp => ⟨Heap.get?_push_of_some _ (N p hp).1, (N p hp).2⟩) hj ?_ ?_
  · rintro i v m₁ X₁ h tk io hi ⟨k, y, hP, hv⟩ hJ hI hs F₁ N₁
    obtain ⟨t, rfl⟩ := Value.isInt_shape hv
    exact turn i k t m₁ X₁ h tk _ io (fun p hp => Heap.lt_size (N p hp).1) (List.mem_map.mpr ⟨_, List.mem_of_getElem? hP, rfl⟩) hJ hI (hs _ (.head _)) F₁ N₁
  · intro m₁ X₁ h tk hJ _ hs F₁ N₁
    exact done m₁ X₁ h tk hJ F₁ N₁
end
theorem SpecU.use {lv : Nat} {w : World} {f : Addr} {vs : List Value} {X : List (Addr × Obj)} {outer : List Env} {frs : List (Addr × Obj)} {Post : Value → List (Addr × Obj) → List (Addr × Obj) → Prop} {loose : List Str} {mean : ExcName → Option Value} {mg mb : Str → Option Value} {dp un : Nat} {gd : Option (List Code)} {cn : Str} {cs : Scope} {a : Addr} {ccd : Value} {cl : List (Str × Addr)} {h₀ : Heap} {L : Addr} {m : Str → Option Value} {s : Shared}
    {Q E : Value → Shared → Prop} (C : SpecU lv w f vs X outer frs Post) (F : Fr h₀ L s.heap m) (K : (topF.heap_1 w.params).In h₀) (N : News h₀ L s.heap X) (T : Top vw loose mean mg mb h₀) (hk : cs.kind = .function) (hd : dp + 10 * lv < 400) (hu : un + 50 * lv < 4000)
    (h : ∀ r X' frs' h' tk', Fr h₀ L h' m → News h₀ L h' X' → TI.SameUp frs frs' → (∀ q ∈ frs', q ∈ X') → Post r X' frs' → Q r { s with heap := h', toks := tk' }) :
    wpAny (model PySem.Challenge.rw_mq0314_01.row.prog w) (ktrTop dp un gd cn cs L a ccd cl outer) (call (.ref f) vs) Q E s := C _ _ _ _ _ _ _ _ _ _ _ _ _ _ _ _ _ _ F K N T hk hd hu h
end
section
abbrev iterO (l : Addr) (i : Nat) : Obj := { cls := .type "list_iterator", data := .fields #[.ref l, .int i 0] }
abbrev mwO (it : Addr) : Obj := { cls := .type "method-wrapper", data := .fields #[.builtin "list_iterator.__next__", .ref it] }
abbrev endO : Obj := { cls := .type "list_iterator", data := .fields #[.none, .int 0 0] }
theorem quiet_ln {as : Args} : (Code.builtin "list_iterator.__next__" as).quiet = true := Code.quiet_builtin _ (by decide +kernel)
theorem check_ln {it : Addr} : checkBoundCall "list_iterator.__next__" ⟨[.ref it], []⟩ = pure () := by first | kernel_rfl | rfl
theorem own_stop : ownMembersOf (.type "StopIteration") [] = #[] := by
  unfold ownMembersOf
  split <;> first | rfl | (rename_i h; revert h; decide) | simp_all
section
variable {prog : Program} {w : World} {A : Around} {E : Value → Shared → Prop} {s : Shared} {h₀ : Heap} {L u it l : Addr} {m : Str → Option Value} {X : List (Addr × Obj)} {vs : List Value} {k i : Nat} {Q : Value → Shared → Prop}
theorem mw_call (N : News h₀ L s.heap X) (hu : (u, mwO it) ∈ X)
    (tree : ∀ {A' : Around}, A'.handled = A.handled → wpAny (model prog w) A' (Builtin.«list_iterator.__next__» ⟨[.ref it], []⟩) (fun f s' => ∃ v, f = .done (.ret v) ∧ Q v s') E s) :
    wpAny (model prog w) A (call (.ref u) []) Q E s := by
  refine wpAny_call (codeAny_of_tree ?_)
  show wpAny _ A.in1 (callAny (.ref u) ⟨[], []⟩) _ _ s
  simp only [callAny]
  refine wpAny_bind (wpAny_load (N _ hu).1 ?_)
  simp only [show (Value.type "method-wrapper" == Value.type "method" || Value.type "method-wrapper" == Value.type "builtin_function_or_method" || Value.type "method-wrapper" == Value.type "method-wrapper") = true by decide, if_true]
  refine KFB.if_so (by decide) ?_
  refine wpAny_bind (wpAny_of_eq (a := ()) check_ln ?_)
  refine wpAny_bind (wpAny_pure (wpAny_pure ?_))
  refine ⟨quiet_ln, codeAny_builtin entry_listiter_next ?_⟩
  refine wpAny_mono (tree rfl) ?_ ?_
  · rintro _ s' ⟨v, rfl, h⟩
    exact h
  · exact fun _ _ h => h
theorem mw_item {x : Value} (F : Fr h₀ L s.heap m) (N : News h₀ L s.heap X) (hu : (u, mwO it) ∈ X) (hi : (it, iterO l i) ∈ X) (hl : (l, listO vs k) ∈ X) (hx : vs[i]? = some x)
    (h : ∀ h', Fr h₀ L h' m → News h₀ L h' ((it, iterO l (i + 1)) :: off it X) → Q x { s with heap := h' }) : wpAny (model prog w) A (call (.ref u) []) Q E s := by
  have z := N _ hi
  refine mw_call N hu fun _ => ?_
  show wpAny _ _ (field (.ref it) 0 >>= _) _ _ s
  refine wpAny_bind (wpAny_field z.1 rfl (x := .ref l) rfl ?_)
  show wpAny _ _ (if (Value.ref l == Value.none) = true then _ else _) _ _ s
  rw [if_neg (show ¬ ((Value.ref l == Value.none) = true) from Bool.false_ne_true)]
  show wpAny _ _ (field (.ref it) 1 >>= _) _ _ s
  refine wpAny_bind (wpAny_field z.1 rfl (x := .int i 0) rfl ?_)
  show wpAny _ _ (seqItems? (.ref l) >>= _) _ _ s
  refine wpAny_bind (wpAny_seqItems (N _ hl).1 rfl ?_)
  have hx' : vs.toArray[i]? = some x := by simpa using hx
  simp only [Int.toNat_natCast, hx']
  refine wpAny_bind (wpAny_setField z.1 rfl (by simp) (wpAny_pure ⟨x, rfl, h _ (F.change (Heap.SameBut.update ..) z.2.1 z.2.2) ?_⟩))
  exact news_set (pre := []) (focus N hi) (fun _ hp => nomatch hp) off_ne (Heap.SameBut.update ..) (Heap.get?_update_self _ z.1 rfl)
theorem mw_end (hh : A.handled = none) (F : Fr h₀ L s.heap m) (N : News h₀ L s.heap X) (hu : (u, mwO it) ∈ X) (hi : (it, iterO l i) ∈ X) (hl : (l, listO vs k) ∈ X) (hx : vs[i]? = none)
    (h : ∀ h₁ h' e o', Heap.NewExc h₁ h' e "StopIteration" → Fr h₀ L h₁ m → News h₀ L h₁ ((it, o') :: off it X) → E (.ref e) { s with heap := h' }) : wpAny (model prog w) A (call (.ref u) []) Q E s := by
  have z := N _ hi
  refine mw_call N hu @fun A' hA => ?_
  show wpAny _ _ (field (.ref it) 0 >>= _) _ _ s
  refine wpAny_bind (wpAny_field z.1 rfl (x := .ref l) rfl ?_)
  show wpAny _ _ (if (Value.ref l == Value.none) = true then _ else _) _ _ s
  rw [if_neg (show ¬ ((Value.ref l == Value.none) = true) from Bool.false_ne_true)]
  show wpAny _ _ (field (.ref it) 1 >>= _) _ _ s
  refine wpAny_bind (wpAny_field z.1 rfl (x := .int i 0) rfl ?_)
  show wpAny _ _ (seqItems? (.ref l) >>= _) _ _ s
  refine wpAny_bind (wpAny_seqItems (N _ hl).1 rfl ?_)
  have hx' : vs.toArray[i]? = none := by simpa using hx
  simp only [Int.toNat_natCast, hx']
  refine wpAny_bind (wpAny_rule (wpAny_bind (wpAny_setField z.1 rfl (by simp) ?_)))
  show wpAny _ _ (newExc (.type "StopIteration") [] >>= _) _ _ _
  refine wpAny_bind ?_
  simp only [newExc, newTuple]
  refine wpAny_bind (wpAny_newObj_type ?_ (by size_fits))
  refine wpAny_bind (m := firstArgMember _ _) (wpAny_of_eq (a := Value.none) (by first | rfl | (simp only [firstArgMember]; rfl)) ?_)
  refine wpAny_newObj_type ?_ (by size_fits)
  simp only [raiseNew]
  refine wpAny_bind (wpAny_handled ?_)
  rw [show A'.handled = none from hA.trans hh]
  refine wpAny_bind (wpAny_pure (wpAny_throw ?_))
  refine h _ _ _ _ ⟨fun b o hb => Heap.get?_push_of_some _ (Heap.get?_push_of_some _ hb), Heap.get?_none_of_le (by simp), _, Value.ref (s.heap.update it (Obj.mapFields fun x => x.setIfInBounds 0 Value.none)).objs.size, Heap.get?_push_size _ rfl, rfl, ?_⟩ (F.change (Heap.SameBut.update ..) z.2.1 z.2.2) (news_set (pre := []) (focus N hi) (fun _ hp => nomatch hp) off_ne (Heap.SameBut.update ..) (Heap.get?_update_self _ z.1 rfl))
  rw [own_stop]; rfl
theorem iter_X (F : Fr h₀ L s.heap m) (N : News h₀ L s.heap X) (hl : (l, listO vs k) ∈ X)
    (h : ∀ I h', Fr h₀ L h' m → News h₀ L h' ((I, iterO l 0) :: X) → (∀ p ∈ X, p.1 < I) → Q (.ref I) { s with heap := h' }) : wpAny (model prog w) A (call (.builtin "iter") [.ref l]) Q E s := by
  refine call_function_entry (by decide +kernel) (by decide +kernel) kdk_entry_iter (kdk_args_iter _) ?_
  unfold Builtin.«iter»
  refine wpAny_bind (m := someArgs "iter" 1 2 _) (wpAny_of_eq (a := [Value.ref l]) (by first | rfl | kernel_rfl!) ?_)
  show wpAny _ _ (pyIter (.ref l) >>= _) _ _ _
  refine wpAny_bind (wpAny_pyIter_list (isLst_of N hl) ?_)
  exact wpAny_pure ⟨_, rfl, h _ _ (F.push _) (News.push F N _ rfl) (fun q hq => Heap.lt_size (N q hq).1)⟩
end
namespace Nx
theorem slot_ga : Slot "list_iterator" "__getattribute__" "object.__getattribute__" :=
  .of (owner := "object") (n := "__getattribute__") (by rw [typeLookup_type, builtinLookup_eq_fast]; kernel_rfl) (by decide +kernel) (by decide +kernel) (by decide +kernel)
    (by first | exact .inl (by decide +kernel) | exact .inr (by decide +kernel)) (by rw [isSubtype_type]; kernel_rfl)
theorem entry_ga : entryFor table "object.__getattribute__" = some Builtin.«object.__getattribute__» := entryFor_of_tree (by kernel_rfl)
theorem args_ga (a b : Value) : argsOk "object.__getattribute__" ⟨[a, b], []⟩ := by unfold argsOk; kernel_rfl
theorem slot_get : Slot "wrapper_descriptor" "__get__" "wrapper_descriptor.__get__" :=
  .of (owner := "wrapper_descriptor") (n := "__get__") (by rw [typeLookup_type, builtinLookup_eq_fast]; kernel_rfl) (by decide +kernel) (by decide +kernel) (by decide +kernel)
    (by first | exact .inl (by decide +kernel) | exact .inr (by decide +kernel)) (by rw [isSubtype_type]; kernel_rfl)
theorem entry_get : entryFor table "wrapper_descriptor.__get__" = some Builtin.«wrapper_descriptor.__get__» := entryFor_of_tree (by kernel_rfl)
theorem args_get (a b c : Value) : argsOk "wrapper_descriptor.__get__" ⟨[a, b, c], []⟩ := by unfold argsOk; kernel_rfl
theorem type_next : typeOf (.builtin "list_iterator.__next__") = pure (.type "wrapper_descriptor") := by show builtinType _ = _; rw [builtinType_eq_fast]; kernel_rfl
theorem no_set : typeLookup (.type "wrapper_descriptor") "__set__" = pure none := by rw [typeLookup_type, builtinLookup_eq_fast]; kernel_rfl
theorem no_del : typeLookup (.type "wrapper_descriptor") "__delete__" = pure none := by rw [typeLookup_type, builtinLookup_eq_fast]; kernel_rfl
theorem owner_next : (kfb_private% "ownerAndName") "list_iterator.__next__" = ("list_iterator", "__next__") := by first | decide +kernel | kernel_rfl
theorem name_next : (kfb_private% "nameAndClass") (.builtin "list_iterator.__next__") = pure (("__next__" : Str), Value.type "list_iterator") := by
  show (let (owner, name) := (kfb_private% "ownerAndName") "list_iterator.__next__"; pure ((name : Str), Value.type owner)) = _
  rw [owner_next]
theorem sub_it : isSubtype (.type "list_iterator") (.type "list_iterator") = pure true := by rw [isSubtype_type]; kernel_rfl
section
variable {prog : Program} {w : World} {A : Around} {E : Value → Shared → Prop} {h : Heap} {g : Array GenState} {d : Drawn} {t : Nat} {os : OsState} {a l : Addr} {i : Nat}
theorem run_get {P : Fin → Shared → Prop} (hx : h.get? a = some (iterO l i)) (hq : P (.done (.ret (.ref h.objs.size))) ⟨h.push (mwO a), g, d, t, os⟩) :
    wpAny (model prog w) A (Builtin.«wrapper_descriptor.__get__» ⟨[.builtin "list_iterator.__next__", .ref a, .type "list_iterator"], []⟩) P E ⟨h, g, d, t, os⟩ := by
  unfold Builtin.«wrapper_descriptor.__get__»
  refine wpAny_bind (wpAny_of_eq (a := (.builtin "list_iterator.__next__", some (.ref a), some (.type "list_iterator"))) (by first | rfl | kernel_rfl) ?_)
  show wpAny _ _ ((kfb_private% "checkInstance") (.builtin "list_iterator.__next__") (.ref a) >>= fun _ => newFields "method-wrapper" [.builtin "list_iterator.__next__", .ref a] >>= fun v => ret v) P E _
  refine wpAny_bind ?_
  show wpAny _ _ ((kfb_private% "nameAndClass") (.builtin "list_iterator.__next__") >>= _) _ E _
  refine wpAny_bind (wpAny_of_eq (a := (("__next__" : Str), Value.type "list_iterator")) name_next ?_)
  dsimp only
  refine wpAny_bind (wpAny_isInstance (T := "list_iterator") (b := true) ⟨_, hx, rfl⟩ sub_it ?_)
  refine KFB.if_not rfl (wpAny_pure ?_)
  exact wpAny_bind (wpAny_newObj_type (wpAny_pure hq))
theorem get_call {R : Result → Shared → Prop} (hx : h.get? a = some (iterO l i)) (hq : R (.ok (.ret (.ref h.objs.size))) ⟨h.push (mwO a), g, d, t, os⟩) :
    codeAny (model prog w) A (.call (.builtin "wrapper_descriptor.__get__") ⟨[.builtin "list_iterator.__next__", .ref a, .type "list_iterator"], []⟩) R ⟨h, g, d, t, os⟩ := by
  have hT5 : (⟨h, g, d, t, os⟩ : Shared).TypeIs (.builtin "list_iterator.__next__") "wrapper_descriptor" := type_next
  exact codeAny_call_builtin slot_get.plain entry_get (slot_get.check _ _ _ _ _ _ _ _ hT5 (args_get _ _ _) (run_get hx hq))
theorem ga_entry {tk : Tok} {Q : Fin → Shared → Prop} (hx : h.get? a = some (iterO l i)) (hq : Q (.done (.ret (.ref h.objs.size))) ⟨h.push (mwO a), g, d, t, os⟩) :
    wpAny (model prog w) A (Builtin.«object.__getattribute__» ⟨[.ref a, .str "__next__" tk], []⟩) Q E ⟨h, g, d, t, os⟩ := by
  have hT : (⟨h, g, d, t, os⟩ : Shared).TypeIs (.ref a) "list_iterator" := ⟨_, hx, rfl⟩
  have hT5 : (⟨h, g, d, t, os⟩ : Shared).TypeIs (.builtin "list_iterator.__next__") "wrapper_descriptor" := type_next
  have f4 := slot_listiter_next.lookup
  have f5 := type_next
  have f6 := slot_get.lookup
  have f7 := no_set
  have f8 := no_del
  repeat (any_goals (first | assumption | wp_step))
  refine get_call hx ?_
  repeat (any_goals (first | assumption | wp_step))
theorem ga_call {tk : Tok} {R : Result → Shared → Prop} (hx : h.get? a = some (iterO l i)) (hq : R (.ok (.ret (.ref h.objs.size))) ⟨h.push (mwO a), g, d, t, os⟩) :
    codeAny (model prog w) A (.call (.builtin "object.__getattribute__") ⟨[.ref a, .str "__next__" tk], []⟩) R ⟨h, g, d, t, os⟩ :=
  codeAny_call_builtin slot_ga.plain entry_ga (slot_ga.check _ _ _ _ _ _ _ _ (show (⟨h, g, d, t, os⟩ : Shared).TypeIs (.ref a) "list_iterator" from ⟨_, hx, rfl⟩) (args_ga _ _) (ga_entry hx hq))
theorem ga_by {tk : Tok} {fill expr : Bool} {Q : Value → Shared → Prop} (hx : h.get? a = some (iterO l i)) (hq : Q (.ref h.objs.size) ⟨h.push (mwO a), g, d, t, os⟩) :
    wpAny (model prog w) A (getAttrBy (.ref a) (.str "__next__" tk) fill expr) Q E ⟨h, g, d, t, os⟩ := by
  have hT : (⟨h, g, d, t, os⟩ : Shared).TypeIs (.ref a) "list_iterator" := ⟨_, hx, rfl⟩
  have f2 := slot_ga.lookup
  have f3 := slot_ga.bind (.ref a)
  have hx0 : (expr && onTheHeap (Value.builtin "object.__getattribute__")) = false := by cases expr <;> rfl
  repeat (any_goals (first | assumption | wp_step))
  refine ga_call hx ?_
  repeat (any_goals (first | assumption | wp_step))
theorem attr {expr : Bool} {Q : Value → Shared → Prop} (hx : h.get? a = some (iterO l i)) (hq : Q (.ref h.objs.size) ⟨h.push (mwO a), g, d, t + 1, os⟩) :
    wpAny (model prog w) A (getAttr (.ref a) "__next__" expr) Q E ⟨h, g, d, t, os⟩ := by
  unfold getAttr
  repeat (any_goals (first | assumption | with_reducible apply ga_by hx | wp_step))
end
end Nx
theorem next_attr {prog : Program} {w : World} {A : Around} {E : Value → Shared → Prop} {s : Shared} {h₀ : Heap} {L it l : Addr} {m : Str → Option Value} {X : List (Addr × Obj)} {i : Nat} {expr : Bool} {Q : Value → Shared → Prop} (F : Fr h₀ L s.heap m) (N : News h₀ L s.heap X) (hi : (it, iterO l i) ∈ X)
    (h : ∀ M h', Fr h₀ L h' m → News h₀ L h' ((M, mwO it) :: X) → (∀ p ∈ X, p.1 < M) → Q (.ref M) { s with heap := h', toks := s.toks + 1 }) : wpAny (model prog w) A (getAttr (.ref it) "__next__" expr) Q E s := by
  obtain ⟨hp, g, d, tk, os⟩ := s
  exact Nx.attr (N _ hi).1 (h _ _ (F.push _) (News.push F N _ rfl) (fun q hq => Heap.lt_size (N q hq).1))
end
section
section
variable {prog : Program} {w : World} {A : Around} {E : Value → Shared → Prop} {env : Env} {h₀ : Heap} {x : Str} {body : List Stmt} {Q : Flow → Shared → Prop} {s : Shared}
/-- a loop over a range -/
theorem iter_rng {r : Addr} {a b c : Int} {t u v : Tok} {n : Nat} {m₀ : Str → Option Value} {X : List (Addr × Obj)} (J : Nat → (Str → Option Value) → List (Addr × Obj) → Prop)
    (hh : A.handled = none) (hr : IsRange s.heap r a b c t u v) (hsm : Builtin.Range.small a b c = true) (hn : Builtin.Range.rangeSize a b c = (n : Int)) (F : Fr h₀ env.locals s.heap m₀) (N : News h₀ env.locals s.heap X) (hj : J 0 m₀ X)
    (turn : ∀ (i : Nat) t' m₁ X₁ h tk I io, i < n → (∀ p ∈ X, p.1 < I) → J i m₁ X₁ → (∀ p ∈ X₁, p.1 ≠ I) → Fr h₀ env.locals h (fun y => if y = x then some (.int (a + i * c) t') else m₁ y) → News h₀ env.locals h ((I, io) :: X₁) →
      wpAny (model prog w) A (execs body env) (MyTurn h₀ env.locals I io [] (J (i + 1)) { s with heap := h, toks := tk } Q) E { s with heap := h, toks := tk })
    (done : ∀ m₁ X₁ h tk, J n m₁ X₁ → Fr h₀ env.locals h m₁ → News h₀ env.locals h X₁ → Q .next { s with heap := h, toks := tk }) :
    wpAny (model prog w) A (pyIter (.ref r)) (fun it s₂ => LoopAtV prog w A h₀ env x body Q E it s₂) E s := by
  refine wpAny_pyIter_range hr hsm ?_
  have W := Walks.range (prog := prog) (w := w) hh s.heap.objs.size a c n
  refine loopAt (src := []) (s₂ := { s with heap := s.heap.push { cls := .type "range_iterator", data := .fields #[rawInt a, rawInt (Builtin.Range.rangeSize a b c), rawInt c] } }) J W (fun i h st => ⟨_, st⟩) (fun p hp => nomatch hp)
    (fun p hp => Nat.ne_of_lt (Heap.lt_size (N p hp).1)) (next_is_new F) (Nat.ne_of_gt F.ns.lt) (by show IsRangeIter _ _ _ _ _; rw [hn]; simpa using Heap.get?_push_size _ rfl) (F.push _)
    (fun p hp => ⟨Heap.get?_push_of_some _ (N p hp).1, (N p hp).2⟩) hj ?_ ?_
  · rintro i v m₁ X₁ h tk io hi ⟨t', rfl⟩ hJ hI hs F₁ N₁
    exact turn i t' m₁ X₁ h tk _ io hi (fun p hp => Heap.lt_size (N p hp).1) hJ hI F₁ N₁
  · intro m₁ X₁ h tk hJ _ hs F₁ N₁
    exact done m₁ X₁ h tk hJ F₁ N₁
end
theorem map_at {m : Str → Option Value} {x : Str} {v : Value} (h : m x = some v) : m = fun y => if y = x then some v else m y := by
  funext y
  by_cases e : y = x
  · rw [if_pos e, e, h]
  · rw [if_neg e]
end
section
theorem add_xor : ∀ (n a b : Nat), a ≤ n → a + b = (a ^^^ b) + 2 * (a &&& b)
  | 0, a, b, h => by
    have : a = 0 := by omega
    subst this; simp
  | n + 1, a, b, h => by
    by_cases e : a = 0
    · subst e; simp
    have ih := add_xor n (a / 2) (b / 2) (by omega)
    have x1 := Nat.xor_div_two (a := a) (b := b)
    have x2 := Nat.and_div_two (a := a) (b := b)
    have x3 : (a ^^^ b) % 2 = 1 ↔ ((a + b) % 2 = 1) := by first | exact Nat.xor_mod_two_eq_one | (rw [Nat.xor_mod_two_eq_one]; omega)
    have x4 : (a &&& b) % 2 = 1 ↔ a % 2 = 1 ∧ b % 2 = 1 := Nat.and_mod_two_eq_one
    rw [← x1, ← x2] at ih
    have y3 : (a ^^^ b) % 2 = (a + b) % 2 := by
      rcases Nat.mod_two_eq_zero_or_one (a + b) with h0 | h1
      · rcases Nat.mod_two_eq_zero_or_one (a ^^^ b) with g0 | g1
        · rw [h0, g0]
        · rw [x3.mp g1] at h0; cases h0
      · rw [h1, x3.mpr h1]
    clear x3
    rcases Nat.mod_two_eq_zero_or_one (a &&& b) with g0 | g1
    · have z : a % 2 = 0 ∨ b % 2 = 0 := by
        rcases Nat.mod_two_eq_zero_or_one a with p | p
        · exact .inl p
        rcases Nat.mod_two_eq_zero_or_one b with q | q
        · exact .inr q
        rw [x4.mpr ⟨p, q⟩] at g0; cases g0
      clear x4
      rcases z with z | z <;> omega
    · obtain ⟨p, q⟩ := x4.mp g1
      clear x4
      omega
theorem bitXor_nat (a b : Nat) : Builtin.bitXor (a : Int) (b : Int) = ((a ^^^ b : Nat) : Int) := by
  rw [bitXor_and, bitAnd_pp (by omega) (by omega)]
  have := add_xor a a b (Nat.le_refl _)
  simp only [Int.toNat_natCast]
  omega
def crcS (c : Nat) : Nat := if c % 2 = 1 then (c / 2) ^^^ 3988292384 else c / 2
def crcN : Nat → Nat → Nat
  | 0, c => c
  | k + 1, c => crcS (crcN k c)
theorem crcS_lt {c : Nat} (h : c < 2 ^ 32) : crcS c < 2 ^ 32 := by
  unfold crcS
  split
  · exact Nat.xor_lt_two_pow (by omega) (by decide)
  · omega
theorem crcN_lt {c : Nat} (h : c < 2 ^ 32) : ∀ k, crcN k c < 2 ^ 32
  | 0 => h
  | k + 1 => crcS_lt (crcN_lt h k)
theorem crc_odd {c : Nat} (h : ¬ Builtin.bitAnd (c : Int) 1 = 0) : Builtin.bitXor ((c : Int).fdiv (2 ^ Int.toNat 1)) 3988292384 = ((crcS c : Nat) : Int) := by
  rw [bitAnd_m1] at h
  have e : ((c : Int).fdiv (2 ^ Int.toNat 1)) = ((c / 2 : Nat) : Int) := by
    rw [Int.fdiv_eq_ediv_of_nonneg _ (by decide)]; rfl
  have e2 : (3988292384 : Int) = ((3988292384 : Nat) : Int) := rfl
  rw [e, e2, bitXor_nat]
  unfold crcS
  rw [if_pos (by omega)]
theorem crc_even {c : Nat} (h : Builtin.bitAnd (c : Int) 1 = 0) : ((c : Int).fdiv (2 ^ Int.toNat 1)) = ((crcS c : Nat) : Int) := by
  rw [bitAnd_m1] at h
  have e : ((c : Int).fdiv (2 ^ Int.toNat 1)) = ((c / 2 : Nat) : Int) := by
    rw [Int.fdiv_eq_ediv_of_nonneg _ (by decide)]; rfl
  rw [e]
  unfold crcS
  rw [if_neg (by omega)]
end
section
theorem xor4 (a b c d : Nat) : (a ^^^ b) ^^^ (c ^^^ d) = (a ^^^ c) ^^^ (b ^^^ d) := by
  rw [Nat.xor_assoc, Nat.xor_assoc, ← Nat.xor_assoc b c d, Nat.xor_comm b c, Nat.xor_assoc c b d]
/-- linear over exclusive or -/
def Lin (f : Nat → Nat) : Prop := ∀ x y, f (x ^^^ y) = f x ^^^ f y
theorem Lin.zero {f : Nat → Nat} (h : Lin f) : f 0 = 0 := by
  have := h 0 0
  rw [Nat.xor_self] at this
  rw [this, Nat.xor_self]
theorem Lin.comp {f g : Nat → Nat} (hf : Lin f) (hg : Lin g) : Lin (fun x => f (g x)) := fun x y => by
  show f (g (x ^^^ y)) = _
  rw [hg, hf]
theorem top_split {n x : Nat} (h : x < 2 ^ (n + 1)) : x = (x % 2 ^ n) ^^^ (if x.testBit n then 2 ^ n else 0) := by
  apply Nat.eq_of_testBit_eq
  intro i
  rw [Nat.testBit_xor, Nat.testBit_mod_two_pow]
  by_cases hb : x.testBit n = true
  · rw [if_pos hb, Nat.testBit_two_pow]
    by_cases e : i = n
    · subst e; simp [hb]
    · by_cases l : i < n
      · simp [l, Ne.symm e]
      · have : x.testBit i = false := Nat.testBit_lt_two_pow (Nat.lt_of_lt_of_le h (Nat.pow_le_pow_right (by decide) (by omega)))
        simp [this, l, Ne.symm e]
  · rw [if_neg hb, Nat.zero_testBit]
    by_cases l : i < n
    · simp [l]
    · by_cases e : i = n
      · subst e; simpa using hb
      · have : x.testBit i = false := Nat.testBit_lt_two_pow (Nat.lt_of_lt_of_le h (Nat.pow_le_pow_right (by decide) (by omega)))
        simp [this, l]
/-- two linear functions that agree on the powers of two below 2 ^ n agree below 2 ^ n -/
theorem Lin.ext {f g : Nat → Nat} (hf : Lin f) (hg : Lin g) : ∀ n, (∀ i, i < n → f (2 ^ i) = g (2 ^ i)) → ∀ x, x < 2 ^ n → f x = g x
  | 0, _, x, h => by
    have : x = 0 := by omega
    rw [this, hf.zero, hg.zero]
  | n + 1, hb, x, h => by
    have ih := Lin.ext hf hg n (fun i hi => hb i (by omega)) (x % 2 ^ n) (Nat.mod_lt _ (Nat.two_pow_pos n))
    rw [top_split h, hf, hg, ih]
    split
    · rw [hb n (by omega)]
    · rw [hf.zero, hg.zero]
theorem crcS_lin : Lin crcS := fun x y => by
  unfold crcS
  have h1 := Nat.xor_div_two (a := x) (b := y)
  have h2 : (x ^^^ y) % 2 = 1 ↔ (x + y) % 2 = 1 := by first | exact Nat.xor_mod_two_eq_one | (rw [Nat.xor_mod_two_eq_one]; omega)
  by_cases hx : x % 2 = 1 <;> by_cases hy : y % 2 = 1
  · rw [if_neg (by omega), if_pos hx, if_pos hy, h1]
    rw [xor4, Nat.xor_self, Nat.xor_zero]
  · rw [if_pos (by omega), if_pos hx, if_neg hy, h1, Nat.xor_assoc, Nat.xor_assoc, Nat.xor_comm (y / 2)]
  · rw [if_pos (by omega), if_neg hx, if_pos hy, h1, Nat.xor_assoc]
  · rw [if_neg (by omega), if_neg hx, if_neg hy, h1]
theorem crcN_lin : ∀ k, Lin (crcN k)
  | 0 => fun _ _ => rfl
  | k + 1 => crcS_lin.comp (crcN_lin k)
/-- the divisor -/
def dvs : Nat := 4374732215
def rstS (p : Nat) (x : Nat) : Nat := if x.testBit p then x ^^^ (dvs <<< (p - 32)) else x
theorem rstS_lin (p : Nat) : Lin (rstS p) := fun x y => by
  unfold rstS
  rw [Nat.testBit_xor]
  cases hx : x.testBit p <;> cases hy : y.testBit p
  · simp
  · show (x ^^^ y) ^^^ _ = x ^^^ (y ^^^ _)
    rw [Nat.xor_assoc]
  · show (x ^^^ y) ^^^ _ = (x ^^^ _) ^^^ y
    rw [Nat.xor_assoc, Nat.xor_assoc, Nat.xor_comm y]
  · show x ^^^ y = (x ^^^ _) ^^^ (y ^^^ _)
    rw [xor4, Nat.xor_self, Nat.xor_zero]
/-- the first k places, from 71 down -/
def rstN : Nat → Nat → Nat
  | 0, x => x
  | k + 1, x => rstS (71 - k) (rstN k x)
theorem rstN_lin : ∀ k, Lin (rstN k)
  | 0 => fun _ _ => rfl
  | k + 1 => (rstS_lin _).comp (rstN_lin k)
/-- the first k bits, turned -/
def trnN : Nat → Nat → Nat
  | 0, _ => 0
  | k + 1, x => trnN k x ^^^ ((x >>> k % 2) <<< (31 - k))
theorem trnN_lin : ∀ k, Lin (trnN k)
  | 0 => fun _ _ => by simp [trnN]
  | k + 1 => fun x y => by
    have ih := trnN_lin k x y
    show trnN k (x ^^^ y) ^^^ (((x ^^^ y) >>> k % 2) <<< (31 - k)) = (trnN k x ^^^ ((x >>> k % 2) <<< (31 - k))) ^^^ (trnN k y ^^^ ((y >>> k % 2) <<< (31 - k)))
    have e : ((x ^^^ y) >>> k % 2) = (x >>> k % 2) ^^^ (y >>> k % 2) := by
      rw [Nat.shiftRight_xor_distrib]
      have h2 : ((x >>> k) ^^^ (y >>> k)) % 2 = 1 ↔ ((x >>> k) + (y >>> k)) % 2 = 1 := by first | exact Nat.xor_mod_two_eq_one | (rw [Nat.xor_mod_two_eq_one]; omega)
      rcases Nat.mod_two_eq_zero_or_one (x >>> k) with hx | hx <;> rcases Nat.mod_two_eq_zero_or_one (y >>> k) with hy | hy <;> rw [hx, hy] <;> simp <;> omega
    rw [ih, e, Nat.shiftLeft_xor_distrib, xor4]
abbrev trn (x : Nat) : Nat := trnN 32 x
abbrev rst (x : Nat) : Nat := rstN 40 x

theorem shl_lin (k : Nat) : Lin (fun x => x <<< k) := fun x y => by
  show (x ^^^ y) <<< k = _
  rw [Nat.shiftLeft_xor_distrib]
theorem forall_lt {p : Nat → Bool} (n : Nat) : ((List.range n).all p = true) → ∀ i, i < n → p i = true := fun h i hi => List.all_eq_true.mp h i (List.mem_range.mpr hi)
/-- turning, eight places up, the rest, turning: eight steps of the check sum -/
theorem crc_key {c : Nat} (h : c < 2 ^ 32) : trn (rst (trn c <<< 8)) = crcN 8 c := by
  refine Lin.ext (f := fun c => trn (rst (trn c <<< 8))) ((trnN_lin 32).comp ((rstN_lin 40).comp ((shl_lin 8).comp (trnN_lin 32)))) (crcN_lin 8) 32 (fun i hi => ?_) c h
  have := forall_lt (p := fun i => trn (rst (trn (2 ^ i) <<< 8)) == crcN 8 (2 ^ i)) 32 (by decide +kernel) i hi
  simpa using this
theorem trn_trn {c : Nat} (h : c < 2 ^ 32) : trn (trn c) = c := by
  refine Lin.ext (f := fun c => trn (trn c)) (g := fun c => c) ((trnN_lin 32).comp (trnN_lin 32)) (fun _ _ => rfl) 32 (fun i hi => ?_) c h
  have := forall_lt (p := fun i => trn (trn (2 ^ i)) == 2 ^ i) 32 (by decide +kernel) i hi
  simpa using this
theorem rst_small {c : Nat} (h : c < 2 ^ 32) : rst c = c := by
  refine Lin.ext (g := fun c => c) (rstN_lin 40) (fun _ _ => rfl) 32 (fun i hi => ?_) c h
  have := forall_lt (p := fun i => rst (2 ^ i) == 2 ^ i) 32 (by decide +kernel) i hi
  simpa using this
theorem rst_rst8 {x : Nat} (h : x < 2 ^ 64) : rst (rst x <<< 8) = rst (x <<< 8) := by
  refine Lin.ext (f := fun x => rst (rst x <<< 8)) (g := fun x => rst (x <<< 8)) ((rstN_lin 40).comp ((shl_lin 8).comp (rstN_lin 40))) ((rstN_lin 40).comp (shl_lin 8)) 64 (fun i hi => ?_) x h
  have := forall_lt (p := fun i => rst (rst (2 ^ i) <<< 8) == rst (2 ^ i <<< 8)) 64 (by decide +kernel) i hi
  simpa using this
theorem rst_lt_bit {x : Nat} (h : x < 2 ^ 72) : rst x < 2 ^ 32 := by
  have : rst x % 2 ^ 32 = rst x := by
    refine Lin.ext (f := fun x => rst x % 2 ^ 32) ?_ (rstN_lin 40) 72 (fun i hi => ?_) x h
    · intro a b
      show rstN 40 (a ^^^ b) % 2 ^ 32 = (rstN 40 a % 2 ^ 32) ^^^ (rstN 40 b % 2 ^ 32)
      rw [rstN_lin 40 a b, Nat.xor_mod_two_pow]
    · have := forall_lt (p := fun i => rst (2 ^ i) % 2 ^ 32 == rst (2 ^ i)) 72 (by decide +kernel) i hi
      simpa using this
  rw [← this]
  exact Nat.mod_lt _ (by decide)
theorem trn_lt {c : Nat} (h : c < 2 ^ 32) : trn c < 2 ^ 32 := by
  have : trn c % 2 ^ 32 = trn c := by
    refine Lin.ext (f := fun x => trn x % 2 ^ 32) ?_ (trnN_lin 32) 32 (fun i hi => ?_) c h
    · intro a b
      show trnN 32 (a ^^^ b) % 2 ^ 32 = (trnN 32 a % 2 ^ 32) ^^^ (trnN 32 b % 2 ^ 32)
      rw [trnN_lin 32 a b, Nat.xor_mod_two_pow]
    · have := forall_lt (p := fun i => trn (2 ^ i) % 2 ^ 32 == trn (2 ^ i)) 32 (by decide +kernel) i hi
      simpa using this
  rw [← this]
  exact Nat.mod_lt _ (by decide)
end
section
def xs : List Nat → Nat
  | [] => 0
  | a :: l => a ^^^ xs l
theorem xs_map_xor {α : Type} (f g : α → Nat) : ∀ l : List α, xs (l.map fun i => f i ^^^ g i) = xs (l.map f) ^^^ xs (l.map g)
  | [] => by simp [xs]
  | a :: l => by simp only [List.map_cons, xs, xs_map_xor f g l]; exact xor4 ..
theorem xs_zero {α : Type} {f : α → Nat} : ∀ {l : List α}, (∀ i ∈ l, f i = 0) → xs (l.map f) = 0
  | [], _ => rfl
  | a :: l, h => by simp only [List.map_cons, xs, h a (.head _), xs_zero fun i hi => h i (.tail _ hi), Nat.xor_self]
theorem xs_swap {α β : Type} (f : α → β → Nat) : ∀ (l : List α) (k : List β), xs (l.map fun i => xs (k.map fun j => f i j)) = xs (k.map fun j => xs (l.map fun i => f i j))
  | [], k => by simp only [List.map_nil, xs]; exact (xs_zero fun _ _ => rfl).symm
  | a :: l, k => by simp only [List.map_cons, xs]; rw [xs_swap f l k, xs_map_xor]
theorem Lin.xs {f : Nat → Nat} (h : Lin f) {α : Type} (g : α → Nat) : ∀ l : List α, f (Mine.xs (l.map g)) = Mine.xs (l.map fun i => f (g i))
  | [] => h.zero
  | a :: l => by simp only [List.map_cons, Mine.xs]; rw [h, Lin.xs h g l]
theorem xs_congr {α : Type} {f g : α → Nat} {l : List α} (h : ∀ i ∈ l, f i = g i) : xs (l.map f) = xs (l.map g) := by rw [List.map_congr_left h]
theorem xs_append (l k : List Nat) : xs (l ++ k) = xs l ^^^ xs k := by
  induction l with
  | nil => simp [xs]
  | cons a l ih => rw [List.cons_append, xs, xs, ih, Nat.xor_assoc]
theorem xs_lt {n : Nat} : ∀ {l : List Nat}, (∀ x ∈ l, x < 2 ^ n) → xs l < 2 ^ n
  | [], _ => Nat.two_pow_pos n
  | a :: l, h => Nat.xor_lt_two_pow (h a (.head _)) (xs_lt fun x hx => h x (.tail _ hx))
theorem foldl_xs {α : Type} (f : α → Nat) : ∀ (l : List α) (z : Nat), l.foldl (fun w a => w ^^^ f a) z = z ^^^ xs (l.map f)
  | [], z => by simp [xs]
  | a :: l, z => by rw [List.foldl_cons, foldl_xs f l, List.map_cons, xs, Nat.xor_assoc]
section
variable (own : Nat → Nat) (into : Nat → List Nat)
def Wn : Nat → Nat → Nat
  | 0, _ => 0
  | k + 1, v => (into v).foldl (fun w a => w ^^^ crcN 8 (Wn k a)) (own v)
def Wv (v : Nat) : Nat := Wn own into (v + 1) v
/-- the number of ways of s steps from u to v -/
def wys (u : Nat) : Nat → Nat → Nat
  | 0, v => if v = u then 1 else 0
  | s + 1, v => ((into v).map fun a => wys u s a).sum
def ctr (u s v : Nat) : Nat := if wys into u s v % 2 = 1 then trn (own u) <<< (8 * s) else 0
def tog (v : Nat) : Nat := xs ((List.range 6).map fun u => xs ((List.range (6 - u)).map fun s => ctr own into u s v))
variable {own into} (hin : ∀ v, ∀ a ∈ into v, a < v)
include hin
theorem Wn_any : ∀ (k v : Nat), v < k → Wn own into k v = Wv own into v
  | 0, v, h => by omega
  | k + 1, v, h => by
    unfold Wv
    show (into v).foldl _ _ = (into v).foldl _ _
    rw [foldl_xs, foldl_xs]
    congr 1
    refine xs_congr fun a ha => ?_
    have h1 := hin v a ha
    rw [Wn_any k a (by omega)]
    cases v with
    | zero => omega
    | succ v => rw [Wn_any (v + 1) a (by omega)]
theorem Wv_eq (v : Nat) : Wv own into v = (into v).foldl (fun w a => w ^^^ crcN 8 (Wv own into a)) (own v) := by
  show (into v).foldl _ _ = _
  rw [foldl_xs, foldl_xs]
  congr 1
  exact xs_congr fun a ha => by rw [Wn_any hin v a (hin v a ha)]
theorem Wv_lt (ho : ∀ v, own v < 2 ^ 32) : ∀ v, Wv own into v < 2 ^ 32 := by
  intro v
  induction v using Nat.strongRecOn with
  | ind v ih =>
    rw [Wv_eq hin, foldl_xs]
    refine Nat.xor_lt_two_pow (ho v) (xs_lt fun x hx => ?_)
    obtain ⟨a, ha, rfl⟩ := List.mem_map.mp hx
    exact crcN_lt (ih a (hin v a ha)) 8
theorem wys_none (u : Nat) : ∀ s v, v < u + s → wys into u s v = 0
  | 0, v, h => if_neg (by omega)
  | s + 1, v, h => by
    show ((into v).map _).sum = 0
    have : (into v).map (fun a => wys into u s a) = (into v).map fun _ => 0 := List.map_congr_left fun a ha => wys_none u s a (by have := hin v a ha; omega)
    rw [this]
    generalize into v = l
    induction l with
    | nil => rfl
    | cons a l ih => simpa using ih
omit hin in
theorem ctr_succ (u s v : Nat) : ctr own into u (s + 1) v = xs ((into v).map fun a => ctr own into u s a <<< 8) := by
  unfold ctr
  show (if ((into v).map fun a => wys into u s a).sum % 2 = 1 then _ else _) = _
  generalize into v = l
  induction l with
  | nil => rfl
  | cons a l ih =>
    rw [List.map_cons, List.map_cons, List.sum_cons, xs, ← ih]
    have e : trn (own u) <<< (8 * s) <<< 8 = trn (own u) <<< (8 * (s + 1)) := by rw [← Nat.shiftLeft_add]; rfl
    rcases Nat.mod_two_eq_zero_or_one (wys into u s a) with h1 | h1 <;> rcases Nat.mod_two_eq_zero_or_one ((l.map fun a => wys into u s a).sum) with h2 | h2
    · rw [if_neg (by omega), if_neg (by omega), if_neg (by omega)]; simp
    · rw [if_pos (by omega), if_neg (by omega), if_pos h2]; simp
    · rw [if_pos (by omega), if_pos h1, if_neg (by omega), e]; simp
    · rw [if_neg (by omega), if_pos h1, if_pos h2, e, Nat.xor_self]
theorem tog_eq {v : Nat} (hv : v < 6) : tog own into v = trn (own v) ^^^ xs ((into v).map fun a => tog own into a <<< 8) := by
  have one : ∀ u, u < 6 → xs ((List.range (6 - u)).map fun s => ctr own into u s v) = (if v = u then trn (own u) else 0) ^^^ xs ((into v).map fun a => xs ((List.range (6 - u)).map fun s => ctr own into u s a) <<< 8) := by
    intro u hu
    obtain ⟨n, hn⟩ : ∃ n, 6 - u = n + 1 := ⟨5 - u, by omega⟩
    have last : ∀ a ∈ into v, xs ((List.range (6 - u)).map fun s => ctr own into u s a) = xs ((List.range n).map fun s => ctr own into u s a) := by
      intro a ha
      have h1 := hin v a ha
      rw [hn, List.range_succ, List.map_append, xs_append]
      have : ctr own into u n a = 0 := by
        unfold ctr
        rw [wys_none hin u n a (by omega)]; rfl
      simp [xs, this]
    have lastM : xs ((into v).map fun a => xs ((List.range (6 - u)).map fun s => ctr own into u s a) <<< 8) = xs ((into v).map fun a => xs ((List.range n).map fun s => ctr own into u s a) <<< 8) := xs_congr fun a ha => by rw [last a ha]
    have first : ctr own into u 0 v = if v = u then trn (own u) else 0 := by
      unfold ctr
      by_cases e : v = u
      · rw [if_pos e, if_pos (by simp [wys, e])]; rfl
      · rw [if_neg e, if_neg (by simp [wys, e])]
    rw [lastM, hn, List.range_succ_eq_map, List.map_cons, xs, List.map_map, first]
    congr 1
    · have h3 : xs ((List.range n).map ((fun s => ctr own into u s v) ∘ Nat.succ)) = xs ((List.range n).map fun s => xs ((into v).map fun a => ctr own into u s a <<< 8)) := xs_congr fun s _ => ctr_succ u s v
      rw [h3, xs_swap]
      exact xs_congr fun a _ => ((shl_lin 8).xs _ _).symm
  unfold tog
  rw [xs_congr fun u hu => one u (List.mem_range.mp hu), xs_map_xor]
  congr 1
  · have : v = 0 ∨ v = 1 ∨ v = 2 ∨ v = 3 ∨ v = 4 ∨ v = 5 := by omega
    rcases this with rfl | rfl | rfl | rfl | rfl | rfl <;> simp [List.range, List.range.loop, xs]
  · rw [xs_swap]
    exact xs_congr fun a _ => ((shl_lin 8).xs _ _).symm
theorem tog_lt (ho : ∀ v, own v < 2 ^ 32) {v n : Nat} (hv : v ≤ n) : tog own into v < 2 ^ (32 + 8 * n) := by
  refine xs_lt fun x hx => ?_
  obtain ⟨u, _, rfl⟩ := List.mem_map.mp hx
  refine xs_lt fun x hx => ?_
  obtain ⟨s, _, rfl⟩ := List.mem_map.mp hx
  unfold ctr
  split
  · rename_i h
    have hs : s ≤ n := by
      by_cases h1 : v < u + s
      · rw [wys_none hin u s v h1] at h; cases h
      · omega
    rw [Nat.shiftLeft_eq, Nat.pow_add]
    exact Nat.mul_lt_mul_of_lt_of_le (trn_lt (ho u)) (Nat.pow_le_pow_right (by decide) (by omega)) (Nat.two_pow_pos _)
  · exact Nat.two_pow_pos _
theorem rst_tog (ho : ∀ v, own v < 2 ^ 32) : ∀ v, v < 6 → rst (tog own into v) = trn (Wv own into v) := by
  intro v
  induction v using Nat.strongRecOn with
  | ind v ih =>
    intro hv
    rw [tog_eq hin hv, Wv_eq hin, foldl_xs]
    refine (rstN_lin 40 _ _).trans (Eq.trans ?_ (trnN_lin 32 _ _).symm)
    rw [(rstN_lin 40).xs, (trnN_lin 32).xs]
    congr 1
    · exact rst_small (trn_lt (ho v))
    · refine xs_congr fun a ha => ?_
      have h1 := hin v a ha
      show rst (tog own into a <<< 8) = trn (crcN 8 (Wv own into a))
      have h2 := tog_lt hin ho (v := a) (n := 4) (by omega)
      rw [← rst_rst8 h2, ih a h1 (by omega), ← crc_key (Wv_lt hin ho a)]
      rw [trn_trn]
      exact rst_lt_bit (Nat.lt_of_lt_of_le (by rw [Nat.shiftLeft_eq]; exact Nat.mul_lt_mul_of_lt_of_le (trn_lt (Wv_lt hin ho a)) (Nat.le_refl _) (by decide)) (by decide))
/-- the plain law -/
theorem due_eq (ho : ∀ v, own v < 2 ^ 32) {v : Nat} (hv : v < 6) : trn (rst (tog own into v)) = Wv own into v := by
  rw [rst_tog hin ho v hv, trn_trn (Wv_lt hin ho v)]
end
end
section
section
variable {prog : Program} {w : World} {A : Around} {E : Value → Shared → Prop} {s : Shared} {env : Env} {scope : Scope} {x : Str} {elt : Expr} {Q : Value → Shared → Prop} {h₀ : Heap} {m : Str → Option Value} {X : List (Addr × Obj)}
theorem filter_true {α : Type} : ∀ l : List α, (l.filter fun _ => true) = l
  | [] => rfl
  | a :: l => by rw [List.filter_cons_of_pos rfl, filter_true l]
/-- a comprehension without conditions over anything that walks -/
theorem comp_walk0 {fp : List Addr} {n : Nat} {P : Nat → Value → Prop} {St : Nat → Heap → Prop} {io : Obj} (F : Value → Value → Prop) (W : Walks prog w A s.heap.objs.size fp [s.heap.objs.size] n P St) (hz : n ≤ 1000) (hst : St 0 (s.heap.push io)) (hfp : ∀ b ∈ fp, b < (s.heap.push io).objs.size)
    (FF : Fr h₀ env.locals s.heap m) (N : News h₀ env.locals s.heap X)
    (eltH : ∀ C (i : Nat) v s₃ m₃ E', P i v → s₃.heap.Ns C m₃ → m₃ x = some v → Fr h₀ env.locals s₃.heap m → News h₀ env.locals s₃.heap X → wpAny (model prog w) A (eval elt (compEnv scope C env)) (fun y s₄ => F v y ∧ Keeps s₃ s₄) E' s₃)
    (done : ∀ D h' tk ys k vs, vs.length = n → (∀ j v, vs[j]? = some v → P j v) → Fr h₀ env.locals h' m → News h₀ env.locals h' ((D, listO ys k) :: X) → (∀ q ∈ X, q.1 ≠ D) → Paired F vs ys → Q (.ref D) { s with heap := h', toks := tk }) :
    CompPost prog w A env scope x [] elt Q (.ref s.heap.objs.size) { s with heap := s.heap.push io } := by
  have old : ∀ b ob, s.heap.get? b = some ob → b ∉ [s.heap.objs.size] := fun b ob e hb => absurd (Heap.lt_size e) (by rw [List.mem_singleton.mp hb]; exact Nat.lt_irrefl _)
  have push : ∀ b ob, s.heap.get? b = some ob → (s.heap.push io).get? b = some ob := fun b ob e => Heap.get?_push_of_some _ e
  have lift : ∀ h' : Heap, (∀ b ob, b ∉ [s.heap.objs.size] → (s.heap.push io).get? b = some ob → h'.get? b = some ob) → Fr h₀ env.locals h' m ∧ News h₀ env.locals h' X := fun h' hk' =>
    ⟨FF.keeps fun b ob e => hk' b ob (old b ob e) (push b ob e), fun q hq => ⟨hk' _ _ (old _ _ (N q hq).1) (push _ _ (N q hq).1), (N q hq).2⟩⟩
  refine ⟨fun _ => true, F, _, _, _, _, _, _, rfl, W, by rw [sizeLine_eq]; omega, hst, hfp, ⟨?_, ?_⟩, ?_⟩
  · rintro C i v s₃ m₃ E' hP hns hmx hk' _
    exact wpAny_pure ⟨rfl, _, _, rfl, fun _ _ e => e⟩
  · rintro C i v s₃ m₃ E' hP hpv hns hmx hk' _
    obtain ⟨F', N'⟩ := lift s₃.heap hk'
    exact eltH C i v s₃ m₃ E' hP hns hmx F' N'
  · intro D h' tk ys vs hD hl hpl hlen hP hF hk'
    obtain ⟨F', N'⟩ := lift h' hk'
    have hDs : s.heap.get? D = none := by
      cases e : s.heap.get? D with
      | none => rfl
      | some ob => have := push _ _ e; rw [hD] at this; cases this
    obtain ⟨k, hpl⟩ := hpl
    rw [filter_true] at hF
    refine done D h' tk ys.toList k vs hlen hP F' (fun q hq => ?_) (fun q hq e => ?_) hF
    · rcases List.mem_cons.mp hq with rfl | hq
      · refine ⟨by simpa using hpl, fun e => ?_, ?_⟩
        · obtain ⟨oL, _, _, hL, _⟩ := FF.ns
          have e : D = env.locals := e
          rw [← e, hDs] at hL; cases hL
        · cases e : h₀.get? D with
          | none => rfl
          | some ob => have := FF.keep _ _ e; rw [hDs] at this; cases this
      · exact N' q hq
    · have := (N q hq).1
      rw [e, hDs] at this; cases this
theorem comp_lst0 {l : Addr} {vs : List Value} {k : Nat} (F : Value → Value → Prop) (hh : A.handled = none) (FF : Fr h₀ env.locals s.heap m) (N : News h₀ env.locals s.heap X) (hl : (l, listO vs k) ∈ X) (hz : vs.length ≤ 1000)
    (eltH : ∀ C (i : Nat) v s₃ m₃ E', vs[i]? = some v → s₃.heap.Ns C m₃ → m₃ x = some v → Fr h₀ env.locals s₃.heap m → News h₀ env.locals s₃.heap X → wpAny (model prog w) A (eval elt (compEnv scope C env)) (fun y s₄ => F v y ∧ Keeps s₃ s₄) E' s₃)
    (done : ∀ D h' tk ys k, Fr h₀ env.locals h' m → News h₀ env.locals h' ((D, listO ys k) :: X) → (∀ q ∈ X, q.1 ≠ D) → Paired F vs ys → Q (.ref D) { s with heap := h', toks := tk }) :
    wpAny (model prog w) A (pyIter (.ref l)) (CompPost prog w A env scope x [] elt Q) E s := by
  have hls : s.heap.IsList l vs.toArray := ⟨_, (N _ hl).1, rfl, k, rfl⟩
  have hlt := Heap.lt_size (N _ hl).1
  refine wpAny_pyIter_list hls ?_
  have W := Walks.list (prog := prog) (w := w) hh s.heap.objs.size l (Nat.ne_of_lt hlt) vs.toArray
  rw [List.size_toArray] at W
  refine comp_walk0 F W hz ⟨⟨_, Heap.get?_push_size _ rfl, rfl, rfl⟩, hls.at fun o e => Heap.get?_push_of_some _ e⟩ (fun b hb => ?_) FF N (fun C i v s₃ m₃ E' hP => eltH C i v s₃ m₃ E' (by simpa using hP)) (fun D h' tk ys k' us hlen hP F' N' lD hF => ?_)
  · rw [Heap.size_push]
    rcases List.mem_cons.mp hb with rfl | hb
    · exact Nat.lt_succ_self _
    · rw [List.mem_singleton.mp hb]; exact Nat.lt_succ_of_lt hlt
  · have : us = vs := by
      apply List.ext_getElem?
      intro j
      cases e : us[j]? with
      | some v => have := hP j v e; simpa using this.symm
      | none =>
        have h1 : us.length ≤ j := List.getElem?_eq_none_iff.mp e
        exact (List.getElem?_eq_none_iff.mpr (by have := hlen; simp at this; omega)).symm
    subst this
    exact done D h' tk ys k' F' N' lD hF
end
end
section
section
variable {prog : Program} {w : World} {A : Around} {E : Value → Shared → Prop} {s : Shared} {h₀ : Heap} {L : Addr} {m : Str → Option Value} {env : Env} {elt : Expr} {x : Str} {scope : Scope} {cl : List (Str × Addr)}
/-- the end of an element of a comprehension: its value is told, the ledger stands -/
def EltEnd (h₀ : Heap) (L : Addr) (m : Str → Option Value) (X : List (Addr × Obj)) (P : Value → Prop) (s : Shared) (y : Value) (s' : Shared) : Prop :=
  ∃ h' tk', s' = { s with heap := h', toks := tk' } ∧ Fr h₀ L h' m ∧ News h₀ L h' X ∧ P y
theorem EltEnd.mk {X : List (Addr × Obj)} {P : Value → Prop} {y : Value} {h' : Heap} {tk' : Nat} (F : Fr h₀ L h' m) (N : News h₀ L h' X) (hP : P y) : EltEnd h₀ L m X P s y { s with heap := h', toks := tk' } := ⟨h', tk', rfl, F, N, hP⟩
theorem comp_rest {X : List (Addr × Obj)} {S : List (Addr × Obj) → Prop} {P : Nat → Value → Prop} {Fin : List Value → List (Addr × Obj) → Prop} {n : Nat} (R : Nat → Value → Prop) (hS : S X)
    (eltH : ∀ i v ys I oI C oC D m₂ h tk (E' : Value → Shared → Prop), i < n → P i v → LCg.NsObj oC m₂ → m₂ x = some v → Fr h₀ L h m → News h₀ L h ((I, oI) :: (C, oC) :: (D, LCg.lst ys) :: X) →
      wpAny (model prog w) A (eval elt (compEnvC scope cl C env)) (EltEnd h₀ L m ((I, oI) :: (C, oC) :: (D, LCg.lst ys) :: X) (R i) { s with heap := h, toks := tk }) E' { s with heap := h, toks := tk })
    (fin : ∀ ys, ys.length = n → (∀ i y, ys[i]? = some y → R i y) → Fin ys X) : LCg.CompRest prog w A h₀ L m env elt x scope cl s S P Fin n 0 [] X := by
  have main : ∀ k i ys, i + k = n → ys.length = i → (∀ j y, ys[j]? = some y → R j y) → LCg.CompRest prog w A h₀ L m env elt x scope cl s S P Fin k i ys X := by
    intro k
    induction k with
    | zero =>
      intro i ys hi hl hR
      exact LCg.CompRest.zero (fin ys (by omega) hR)
    | succ k ih =>
      intro i ys hi hl hR
      refine LCg.CompRest.succ fun v I oI C oC D m₂ h tk E' hP hC hx F N off ne => ?_
      refine wpAny_mono (eltH i v ys I oI C oC D m₂ h tk E' (by omega) hP hC hx F N) (fun y s' hy => ?_) fun _ _ e => e
      obtain ⟨h', tk', rfl, F', N', hy⟩ := hy
      refine ⟨h', tk', X, rfl, F', N', off, hS, ih (i + 1) (ys ++ [y]) (by omega) (by simp [hl]) fun j z hz => ?_⟩
      by_cases hj : j < ys.length
      · rw [List.getElem?_append_left hj] at hz; exact hR j z hz
      · rw [List.getElem?_append_right (by omega)] at hz
        have : j - ys.length = 0 := by
          cases e : j - ys.length with
          | zero => rfl
          | succ q => rw [e] at hz; simp at hz
        rw [this] at hz
        have e2 : j = i := by omega
        rw [e2]
        have : y = z := by simpa using hz
        rw [← this]; exact hy
  exact main n 0 [] (by omega) rfl (fun j y h => by simp at h)
theorem ints_of {f : Nat → Int} : ∀ {n : Nat} {ys : List Value}, ys.length = n → (∀ i y, ys[i]? = some y → ∃ t, y = Value.int (f i) t) → IntsAre ys ((List.range n).map f) := by
  intro n
  induction n with
  | zero =>
    intro ys hl _
    have : ys = [] := List.eq_nil_of_length_eq_zero hl
    subst this; exact .nil
  | succ n ih =>
    intro ys hl h
    have : ys = ys.take n ++ ys.drop n := (List.take_append_drop n ys).symm
    have hd : (ys.drop n).length = 1 := by simp [hl]
    obtain ⟨y, hy⟩ := List.length_eq_one_iff.mp hd
    have h1 : IntsAre (ys.take n) ((List.range n).map f) := ih (by simp [hl]) fun i y e => by
      rw [List.getElem?_take] at e
      split at e
      · exact h i y e
      · cases e
    have h2 : ys[n]? = some y := by
      have := congrArg (fun l => l[0]?) hy
      simpa using this
    obtain ⟨t, rfl⟩ := h n y h2
    rw [List.range_succ, List.map_append, this, hy]
    exact IntsAre.append h1 (.cons _ t .nil)
/-- a comprehension over a range whose elements leave the ledger as it is -/
theorem comp_rngU {r : Addr} {a b : Int} {t u v : Tok} {n : Nat} {X : List (Addr × Obj)} {Fin : Shared → List Value → List (Addr × Obj) → Prop} (R : Nat → Value → Prop)
    (hh : A.handled = none) (F : Fr h₀ L s.heap m) (N : News h₀ L s.heap X) (hr : IsRange s.heap r a b 1 t u v) (hsm : Builtin.Range.small a b 1 = true) (hn : Builtin.Range.rangeSize a b 1 = (n : Int)) (hsz : n ≤ 100000)
    (eltH : ∀ i t' ys I oI C oC D m₂ h tk (E' : Value → Shared → Prop), i < n → LCg.NsObj oC m₂ → m₂ x = some (Value.int (a + (i : Int)) t') → Fr h₀ L h m → News h₀ L h ((I, oI) :: (C, oC) :: (D, LCg.lst ys) :: X) →
      wpAny (model prog w) A (eval elt (compEnvC scope cl C env)) (EltEnd h₀ L m ((I, oI) :: (C, oC) :: (D, LCg.lst ys) :: X) (R i) { s with heap := h, toks := tk }) E' { s with heap := h, toks := tk })
    (fin : ∀ g ys, ys.length = n → (∀ i y, ys[i]? = some y → R i y) → Fin { s with heap := g } ys X) : LCg.CompSrc prog w A h₀ L m env elt x scope cl Fin (.ref r) s := by
  refine LCg.CompSrc.range hh F N hr hsm hn (by rw [sizeLine_eq]; omega) fun g => comp_rest R trivial ?_ (fin g)
  rintro i v' ys I oI C oC D m₂ h tk E' hi ⟨t', rfl⟩ hC hx F1 N1
  exact eltH i t' ys I oI C oC D m₂ h tk E' hi hC hx F1 N1
theorem comp_rng0 {r : Addr} {b : Int} {t u v : Tok} {n : Nat} {X : List (Addr × Obj)} {Fin : Shared → List Value → List (Addr × Obj) → Prop} (R : Nat → Value → Prop)
    (hh : A.handled = none) (F : Fr h₀ L s.heap m) (N : News h₀ L s.heap X) (hr : IsRange s.heap r 0 b 1 t u v) (hsm : Builtin.Range.small 0 b 1 = true) (hn : Builtin.Range.rangeSize 0 b 1 = (n : Int)) (hsz : n ≤ 100000)
    (eltH : ∀ i t' ys I oI C oC D m₂ h tk (E' : Value → Shared → Prop), i < n → LCg.NsObj oC m₂ → m₂ x = some (Value.int (i : Int) t') → Fr h₀ L h m → News h₀ L h ((I, oI) :: (C, oC) :: (D, LCg.lst ys) :: X) →
      wpAny (model prog w) A (eval elt (compEnvC scope cl C env)) (EltEnd h₀ L m ((I, oI) :: (C, oC) :: (D, LCg.lst ys) :: X) (R i) { s with heap := h, toks := tk }) E' { s with heap := h, toks := tk })
    (fin : ∀ g ys, ys.length = n → (∀ i y, ys[i]? = some y → R i y) → Fin { s with heap := g } ys X) : LCg.CompSrc prog w A h₀ L m env elt x scope cl Fin (.ref r) s := by
  refine comp_rngU R hh F N hr hsm hn hsz (fun i t' ys I oI C oC D m₂ h tk E' hi hC hx F1 N1 => ?_) fin
  have e : (0 : Int) + (i : Int) = (i : Int) := by omega
  rw [e] at hx
  exact eltH i t' ys I oI C oC D m₂ h tk E' hi hC hx F1 N1
/-- the same over a list of the ledger -/
theorem comp_lstU {l : Addr} {vs : List Value} {k : Nat} {X : List (Addr × Obj)} {Fin : Shared → List Value → List (Addr × Obj) → Prop} (R : Nat → Value → Prop)
    (hh : A.handled = none) (F : Fr h₀ L s.heap m) (N : News h₀ L s.heap X) (hl : (l, listO vs k) ∈ X) (hsz : vs.length ≤ 100000)
    (eltH : ∀ i v ys I oI C oC D m₂ h tk (E' : Value → Shared → Prop), vs[i]? = some v → LCg.NsObj oC m₂ → m₂ x = some v → Fr h₀ L h m → News h₀ L h ((I, oI) :: (C, oC) :: (D, LCg.lst ys) :: X) →
      wpAny (model prog w) A (eval elt (compEnvC scope cl C env)) (EltEnd h₀ L m ((I, oI) :: (C, oC) :: (D, LCg.lst ys) :: X) (R i) { s with heap := h, toks := tk }) E' { s with heap := h, toks := tk })
    (fin : ∀ g ys, ys.length = vs.length → (∀ i y, ys[i]? = some y → R i y) → Fin { s with heap := g } ys X) : LCg.CompSrc prog w A h₀ L m env elt x scope cl Fin (.ref l) s := by
  refine LCg.CompSrc.ledger hh F N hl (by rw [List.size_toArray, sizeLine_eq]; omega) fun g => comp_rest R (.inr ⟨_, hl, rfl, _, rfl⟩) ?_ (fun ys hy => fin g ys (by simpa using hy))
  intro i v ys I oI C oC D m₂ h tk E' hi hv hC hx F1 N1
  exact eltH i v ys I oI C oC D m₂ h tk E' (by simpa using hv) hC hx F1 N1
theorem Off1.all {D : Addr} : ∀ {l : List (Addr × Obj)}, LCg.Off1 D l → ∀ p ∈ l, p.1 ≠ D
  | [], _, _, h => nomatch h
  | _ :: _, x, p, h => by
    rcases List.mem_cons.mp h with rfl | h
    · exact x.1
    · exact Off1.all x.2 p h
theorem finE {ys : List Value} {X : List (Addr × Obj)} {Q : Value → Shared → Prop} (h : ∀ D h tk, Fr h₀ L h m → News h₀ L h ((D, listO ys ys.length) :: X) → (∀ p ∈ X, p.1 ≠ D) → Q (.ref D) { s with heap := h, toks := tk }) : LCg.FinE h₀ L m s Q ys X :=
  fun D h' tk F N o => h D h' tk F N (Off1.all o)
theorem finA {ys : List Value} {X : List (Addr × Obj)} {y : Str} {Q : Flow → Shared → Prop} (h : ∀ D h tk, Fr h₀ L h (fun z => if z = y then some (.ref D) else m z) → News h₀ L h ((D, listO ys ys.length) :: X) → (∀ p ∈ X, p.1 ≠ D) → Q .next { s with heap := h, toks := tk }) : LCg.FinA h₀ L m s y Q ys X :=
  fun D h' tk F N o => h D h' tk F N (Off1.all o)
theorem sum_X {l : Addr} {vs : List Value} {ns : List Int} {k : Nat} {X : List (Addr × Obj)} {Q : Value → Shared → Prop} (hh : A.handled = none) (F : Fr h₀ L s.heap m) (N : News h₀ L s.heap X) (hm : (l, listO vs k) ∈ X) (hi : IntsAre vs ns)
    (h : ∀ h' tk t', Fr h₀ L h' m → News h₀ L h' X → Q (.int ns.sum t') { s with heap := h', toks := tk }) : wpAny (model prog w) A (call (.builtin "sum") [.ref l]) Q E s :=
  LSm.sum_ints F N hh (isLst_of N hm) hi h
theorem map_set {f : Nat → Int} {n i : Nat} {x : Int} : ((List.range n).map f).set i x = (List.range n).map fun j => if j = i then x else f j := by
  apply List.ext_getElem?
  intro j
  rw [List.getElem?_set, List.getElem?_map, List.getElem?_map]
  by_cases h : j < n
  · rw [List.getElem?_range h]
    simp only [Option.map_some, List.length_map, List.length_range]
    by_cases e : i = j
    · subst e; simp [h]
    · rw [if_neg e, if_neg (Ne.symm e)]
  · rw [List.getElem?_eq_none (by simp; omega)]
    simp only [Option.map_none, List.length_map, List.length_range]
    split
    · rename_i e; subst e; rw [if_neg h]
    · rfl
theorem map_getD {f : Nat → Int} {n i : Nat} (h : i < n) : ((List.range n).map f).getD i 0 = f i := by
  rw [List.getD_eq_getElem?_getD, List.getElem?_map, List.getElem?_range h]; rfl
theorem sub_ints {value slice : Expr} {l : Addr} {vs : List Value} {k n i : Nat} {f : Nat → Int} {u : Tok} {X : List (Addr × Obj)} {Q : Value → Shared → Prop} (N : News h₀ L s.heap X) (hm : (l, listO vs k) ∈ X) (hi : IntsAre vs ((List.range n).map f)) (hlt : i < n) (hz : n ≤ 1000)
    (h : ∀ t, Q (.int (f i) t) s) (hs : subscripted slice false (.ref l) (.int (i : Int) u) = operate [.ref l, .int (i : Int) u] (getItem (.ref l) (.int (i : Int) u)) := by with_unfolding_all rfl) :
    wpAny (model prog w) A (subscriptTail value slice (.ref l) (.int (i : Int) u)) Q E s := by
  refine ksa_sub N hm hi (by omega) (by simp only [List.length_map, List.length_range]; omega) (by omega) (fun t => ?_) hs
  rw [show ((i : Int).toNat) = i from rfl, map_getD hlt]
  exact h t
theorem set_ints {l : Addr} {vs : List Value} {k n i : Nat} {f : Nat → Int} {x : Int} {t u : Tok} {X : List (Addr × Obj)} {Q : Unit → Shared → Prop} (F : Fr h₀ L s.heap m) (N : News h₀ L s.heap X) (hm : (l, listO vs k) ∈ X) (hi : IntsAre vs ((List.range n).map f)) (hlt : i < n) (hz : n ≤ 1000)
    (h : ∀ h' vs', Fr h₀ L h' m → News h₀ L h' ((l, listO vs' k) :: off l X) → IntsAre vs' ((List.range n).map fun j => if j = i then x else f j) → Q () { s with heap := h' }) :
    wpAny (model prog w) A (setItem (.ref l) (.int (i : Int) t) (.int x u)) Q E s := by
  refine ksa_set F (focus N hm) (Upd.head off_ne) hi (by omega) (by simp only [List.length_map, List.length_range]; omega) (by omega) fun h' F' N' hI _ _ => ?_
  rw [show ((i : Int).toNat) = i from rfl, map_set] at hI
  exact h h' _ F' N' hI
end
end
section
/-- a turn's end of a loop that neither breaks nor returns -/
def TurnT (h₀ : Heap) (L : Addr) (I : Addr) (io : Obj) (src : List (Addr × Obj)) (J : (Str → Option Value) → List (Addr × Obj) → Prop) (s₁ : Shared) (f : Flow) (s₂ : Shared) : Prop :=
  f = .next ∧ ∃ h' tk m' Y, s₂ = { s₁ with heap := h', toks := tk } ∧ Fr h₀ L h' m' ∧ News h₀ L h' Y ∧ (I, io) ∈ Y ∧ (∀ p ∈ src, p ∈ Y) ∧ J m' (off I Y)
theorem TurnT.next {h₀ h' : Heap} {L I : Addr} {io : Obj} {src : List (Addr × Obj)} {J : (Str → Option Value) → List (Addr × Obj) → Prop} {s₁ : Shared} {tk : Nat} {m' : Str → Option Value} {Y : List (Addr × Obj)}
    (F : Fr h₀ L h' m') (N : News h₀ L h' Y) (hi : (I, io) ∈ Y) (hs : ∀ p ∈ src, p ∈ Y) (hj : J m' (off I Y)) : TurnT h₀ L I io src J s₁ .next { s₁ with heap := h', toks := tk } := ⟨rfl, h', tk, m', Y, rfl, F, N, hi, hs, hj⟩
section
variable {prog : Program} {w : World} {A : Around} {E : Value → Shared → Prop} {env : Env} {h₀ : Heap} {x : Str} {px : Pos} {body : List Stmt} {Q : Flow → Shared → Prop}
theorem loopAtT {s₂ : Shared} {I : Addr} {src X : List (Addr × Obj)} {n : Nat} {P : Nat → Value → Prop} {St : Nat → Heap → Prop} {m₀ : Str → Option Value} (J : Nat → (Str → Option Value) → List (Addr × Obj) → Prop)
    (W : Walks prog w A I (I :: src.map (·.1)) [I] n P St) (live : ∀ i h, St i h → ∃ o, h.get? I = some o) (hsrc : ∀ p ∈ src, p ∈ X) (hI : ∀ p ∈ X, p.1 ≠ I) (hI0 : h₀.get? I = none) (hIL : I ≠ env.locals) (hst : St 0 s₂.heap)
    (F : Fr h₀ env.locals s₂.heap m₀) (N : News h₀ env.locals s₂.heap X) (hj : J 0 m₀ X)
    (turn : ∀ i v m₁ X₁ s₁ io, i < n → P i v → J i m₁ X₁ → (∀ p ∈ X₁, p.1 ≠ I) → (∀ p ∈ src, p ∈ X₁) → Fr h₀ env.locals s₁.heap m₁ → News h₀ env.locals s₁.heap ((I, io) :: X₁) →
      wpAny (model prog w) A (assign (.Name x px) env v) (fun _ s₃ => wpAny (model prog w) A (execs body env) (TurnT h₀ env.locals I io src (J (i + 1)) s₁) E s₃) E s₁)
    (done : ∀ m₁ X₁ h tk, J n m₁ X₁ → (∀ p ∈ X₁, p.1 ≠ I) → (∀ p ∈ src, p ∈ X₁) → Fr h₀ env.locals h m₁ → News h₀ env.locals h X₁ → Q .next { s₂ with heap := h, toks := tk }) :
    LoopAtT prog w A h₀ env (.Name x px) body Q E (.ref I) s₂ := by
  let J' : Nat → (Str → Option Value) → List (Addr × Obj) → Prop := fun i m₁ X₁ => J i m₁ X₁ ∧ ∀ p ∈ src, p ∈ X₁
  refine ⟨I, _, _, n, P, St, m₀, X, J', rfl, W, ?_, ?_, ?_, hst, F, N, (fun i s' v Q' _ h => by unfold letOwnedTupleGo; exact wpAny_pure h), ⟨hj, hsrc⟩, ?_, ?_⟩
  · intro hm
    rcases List.mem_cons.mp hm with e | hm
    · exact hIL e.symm
    · obtain ⟨p, hp, e⟩ := List.mem_map.mp hm
      exact (N p (hsrc p hp)).2.1 e
  · intro b hb; rw [List.mem_singleton.mp hb]; exact hI0
  · intro p hp hb; exact hI p hp (List.mem_singleton.mp hb)
  · rintro i v m₁ X₁ s₁ own hi hP ⟨hJ, hs⟩ hoff hsub hget hall hst₁ F₁ N₁
    obtain ⟨io, hio⟩ := live _ _ hst₁
    have hI₁ : ∀ p ∈ X₁, p.1 ≠ I := fun p hp e => hoff p hp (by rw [e]; exact .head _)
    have hown : (I, io) ∈ own := hall I (.head _) hI0 io hio
    have N₂ : News h₀ env.locals s₁.heap ((I, io) :: X₁) := fun p hp => by
      rcases List.mem_cons.mp hp with rfl | hp
      · exact N₁ _ (List.mem_append_left _ hown)
      · exact N₁ _ (List.mem_append_right _ hp)
    refine wpAny_mono (turn i v m₁ X₁ s₁ io hi hP hJ hI₁ hs F₁ N₂) (fun _ s₃ p => wpAny_mono p (fun f s₄ p => ?_) fun _ _ e => e) fun _ _ e => e
    obtain ⟨rfl, h', tk', m', Y, rfl, F', N', hi', hs', hJ'⟩ := p
    refine ⟨rfl, h', tk', m', off I Y, rfl, F', fun p hp => ?_, fun p hp hb => off_ne p hp (List.mem_singleton.mp hb), hJ', fun p hp => mem_off (hs' p hp) (hI p (hsrc p hp))⟩
    rcases List.mem_append.mp hp with hp | hp
    · rcases List.mem_cons.mp (hsub p hp) with e | hm
      · have : p = (I, io) := by
          have := hget p hp
          rw [e] at this
          have e2 : p.2 = io := Option.some.inj (this.symm.trans hio)
          exact Prod.ext e e2
        rw [this]; exact N' _ hi'
      · obtain ⟨q, hq, e⟩ := List.mem_map.mp hm
        have : p = q := by
          have h1 := hget p hp
          have h2 := (N₂ q (.tail _ (hs q hq))).1
          have e : q.1 = p.1 := e
          rw [← e] at h1
          exact Prod.ext e.symm (Option.some.inj (h1.symm.trans h2))
        rw [this]; exact N' _ (hs' q hq)
    · exact N' _ (of_off hp)
  · rintro h' tk m' X' F' N' hoff ⟨hJ, hs⟩
    exact done m' X' h' tk hJ (fun p hp e => hoff p hp (by rw [e]; exact .head _)) hs F' N'
variable {s : Shared}
/-- a loop over range(b), the name of any kind -/
theorem iter_rngT {r : Addr} {b : Int} {t u v : Tok} {n : Nat} {m₀ : Str → Option Value} {X : List (Addr × Obj)} (J : Nat → (Str → Option Value) → List (Addr × Obj) → Prop)
    (hh : A.handled = none) (hr : IsRange s.heap r 0 b 1 t u v) (hsm : Builtin.Range.small 0 b 1 = true) (hn : Builtin.Range.rangeSize 0 b 1 = (n : Int)) (F : Fr h₀ env.locals s.heap m₀) (N : News h₀ env.locals s.heap X) (hj : J 0 m₀ X)
    (turn : ∀ (i : Nat) t' m₁ X₁ s₁ I io, i < n → (∀ p ∈ X, p.1 < I) → J i m₁ X₁ → (∀ p ∈ X₁, p.1 ≠ I) → Fr h₀ env.locals s₁.heap m₁ → News h₀ env.locals s₁.heap ((I, io) :: X₁) →
      wpAny (model prog w) A (assign (.Name x px) env (.int (i : Int) t')) (fun _ s₃ => wpAny (model prog w) A (execs body env) (TurnT h₀ env.locals I io [] (J (i + 1)) s₁) E s₃) E s₁)
    (done : ∀ m₁ X₁ h tk, J n m₁ X₁ → Fr h₀ env.locals h m₁ → News h₀ env.locals h X₁ → Q .next { s with heap := h, toks := tk }) :
    wpAny (model prog w) A (pyIter (.ref r)) (fun it s₂ => LoopAtT prog w A h₀ env (.Name x px) body Q E it s₂) E s := by
  refine wpAny_pyIter_range hr hsm ?_
  have W := Walks.range (prog := prog) (w := w) hh s.heap.objs.size 0 1 n
  refine loopAtT (src := []) (s₂ := { s with heap := s.heap.push { cls := .type "range_iterator", data := .fields #[rawInt 0, rawInt (Builtin.Range.rangeSize 0 b 1), rawInt 1] } }) J W (fun i h st => ⟨_, st⟩) (fun p hp => nomatch hp)
    (fun p hp => Nat.ne_of_lt (Heap.lt_size (N p hp).1)) (next_is_new F) (Nat.ne_of_gt F.ns.lt) (by show IsRangeIter _ _ _ _ _; rw [hn]; simpa using Heap.get?_push_size _ rfl) (F.push _)
    (fun p hp => ⟨Heap.get?_push_of_some _ (N p hp).1, (N p hp).2⟩) hj ?_ ?_
  · rintro i v m₁ X₁ s₁ io hi ⟨t', rfl⟩ hJ hI hs F₁ N₁
    have e : (0 : Int) + (i : Int) * 1 = (i : Int) := by omega
    rw [e]
    exact turn i t' m₁ X₁ s₁ _ io hi (fun p hp => Heap.lt_size (N p hp).1) hJ hI F₁ N₁
  · intro m₁ X₁ h tk hJ _ hs F₁ N₁
    exact done m₁ X₁ h tk hJ F₁ N₁
/-- a loop over a list of the ledger, the name of any kind -/
theorem iter_lstT {l : Addr} {vs : List Value} {k : Nat} {m₀ : Str → Option Value} {X : List (Addr × Obj)} (J : Nat → (Str → Option Value) → List (Addr × Obj) → Prop)
    (hh : A.handled = none) (F : Fr h₀ env.locals s.heap m₀) (N : News h₀ env.locals s.heap X) (hl : (l, listO vs k) ∈ X) (hj : J 0 m₀ X)
    (turn : ∀ i v m₁ X₁ s₁ I io, (∀ p ∈ X, p.1 < I) → vs[i]? = some v → J i m₁ X₁ → (∀ p ∈ X₁, p.1 ≠ I) → (l, listO vs k) ∈ X₁ → Fr h₀ env.locals s₁.heap m₁ → News h₀ env.locals s₁.heap ((I, io) :: X₁) →
      wpAny (model prog w) A (assign (.Name x px) env v) (fun _ s₃ => wpAny (model prog w) A (execs body env) (TurnT h₀ env.locals I io [(l, listO vs k)] (J (i + 1)) s₁) E s₃) E s₁)
    (done : ∀ m₁ X₁ h tk, J vs.length m₁ X₁ → (l, listO vs k) ∈ X₁ → Fr h₀ env.locals h m₁ → News h₀ env.locals h X₁ → Q .next { s with heap := h, toks := tk }) :
    wpAny (model prog w) A (pyIter (.ref l)) (fun it s₂ => LoopAtT prog w A h₀ env (.Name x px) body Q E it s₂) E s := by
  have hls : s.heap.IsList l vs.toArray := ⟨_, (N _ hl).1, rfl, k, rfl⟩
  have hlt := Heap.lt_size (N _ hl).1
  refine wpAny_pyIter_list hls ?_
  have W := Walks.list (prog := prog) (w := w) hh s.heap.objs.size l (Nat.ne_of_lt hlt) vs.toArray
  rw [List.size_toArray] at W
  refine loopAtT (src := [(l, listO vs k)]) (s₂ := { s with heap := s.heap.push { cls := .type "list_iterator", data := .fields #[.ref l, .int 0 0] } }) J W (fun i h st => let ⟨o, ho, _⟩ := st.1; ⟨o, ho⟩) (fun p hp => by rw [List.mem_singleton.mp hp]; exact hl)
    (fun p hp => Nat.ne_of_lt (Heap.lt_size (N p hp).1)) (next_is_new F) (Nat.ne_of_gt F.ns.lt) ⟨⟨_, Heap.get?_push_size _ rfl, rfl, rfl⟩, hls.at fun o e => Heap.get?_push_of_some _ e⟩ (F.push _)
    (fun p hp => ⟨Heap.get?_push_of_some _ (N p hp).1, (N p hp).2⟩) hj ?_ ?_
  · intro i v m₁ X₁ s₁ io hi hP hJ hI hs F₁ N₁
    exact turn i v m₁ X₁ s₁ _ io (fun p hp => Heap.lt_size (N p hp).1) (by simpa using hP) hJ hI (hs _ (.head _)) F₁ N₁
  · intro m₁ X₁ h tk hJ _ hs F₁ N₁
    exact done m₁ X₁ h tk hJ (hs _ (.head _)) F₁ N₁
theorem iter_rng0 {r : Addr} {b : Int} {t u v : Tok} {n : Nat} {m₀ : Str → Option Value} {X : List (Addr × Obj)} (J : Nat → (Str → Option Value) → List (Addr × Obj) → Prop)
    (hh : A.handled = none) (hr : IsRange s.heap r 0 b 1 t u v) (hsm : Builtin.Range.small 0 b 1 = true) (hn : Builtin.Range.rangeSize 0 b 1 = (n : Int)) (F : Fr h₀ env.locals s.heap m₀) (N : News h₀ env.locals s.heap X) (hj : J 0 m₀ X)
    (turn : ∀ (i : Nat) t' m₁ X₁ h tk I io, i < n → (∀ p ∈ X, p.1 < I) → J i m₁ X₁ → (∀ p ∈ X₁, p.1 ≠ I) → Fr h₀ env.locals h (fun y => if y = x then some (Value.int (i : Int) t') else m₁ y) → News h₀ env.locals h ((I, io) :: X₁) →
      wpAny (model prog w) A (execs body env) (MyTurn h₀ env.locals I io [] (J (i + 1)) { s with heap := h, toks := tk } Q) E { s with heap := h, toks := tk })
    (done : ∀ m₁ X₁ h tk, J n m₁ X₁ → Fr h₀ env.locals h m₁ → News h₀ env.locals h X₁ → Q .next { s with heap := h, toks := tk }) :
    wpAny (model prog w) A (pyIter (.ref r)) (fun it s₂ => LoopAtV prog w A h₀ env x body Q E it s₂) E s := by
  refine iter_rng J hh hr hsm hn F N hj (fun i t' m₁ X₁ h tk I io hi lI hJ hI F1 N1 => ?_) done
  have e : (0 : Int) + (i : Int) * 1 = (i : Int) := by omega
  rw [e] at F1
  exact turn i t' m₁ X₁ h tk I io hi lI hJ hI F1 N1
end
end
section
section
variable {M : Model} {A : Around} {E : Value → Shared → Prop} {s : Shared} {env : Env} {K : Frag} {pos : Pos} {first : List Value} {Q : Value → Shared → Prop}
/-- a method called with a starred argument: the bound method is made -/
theorem meth_star {o : Expr} {name : Str} {apos : Pos} {args : List Expr}
    (h : wpAny M A (eval o env) (fun ov s₁ => wpAny M A (getAttr ov name true) (fun f s₂ => wpAny M A (callWith pos f [] (backTo pos (starEach args env)) []) Q E s₂) E s₁) E s)
    (he : eval (.Call (.Attribute o name apos) args [] pos) env = (do
      let ov ← eval o env
      standAt apos.atName
      let (f, first) ← holding [ov] (do pure (← getAttr ov name true, []))
      let callPos ← (pure pos : Sem Pos)
      callWith callPos f first (backTo pos (starEach args env)) []) := by rfl) :
    wpAny M A (eval (.Call (.Attribute o name apos) args [] pos) env) Q E s := by
  rw [he]
  refine wpAny_bind (wpAny_mono h (fun ov s₁ h₁ => wpAny_bind (wpAny_standAt (wpAny_bind (wpAny_holding (wpAny_bind (wpAny_mono h₁ (fun f s₂ h₂ => wpAny_pure ?_) fun _ _ x => x)))))) fun _ _ x => x)
  exact wpAny_bind (wpAny_pure h₂)
theorem callWith_MS {q g : Addr} {self : Value} {e : Expr} {rest : List Expr} {h₀ : Heap} {L : Addr} {X : List (Addr × Obj)} (_K : K.In h₀) (_N : News h₀ L s.heap X) (_q : (q, methodObj (.ref g) self) ∈ X) (hf : fnIn K g = true) (h : wpAny M A (spliced (backTo pos (starEach (e :: rest) env))) (fun vs s₁ => MethP K q g self s₁.heap ∧ wpAny M A (call (.ref q) (first ++ vs)) Q E s₁) E s)
    (he : starEach (e :: rest) env = (false, eval e env) :: starEach rest env := by rfl) (hst : (backTo pos (starEach rest env)).any (·.1) = true := by rfl) :
    wpAny M A (callWith pos (.ref q) first (backTo pos (starEach (e :: rest) env)) []) Q E s := by
  rw [he] at h ⊢
  exact ks_call (by show (false || (backTo pos (starEach rest env)).any (·.1)) = true; rw [hst]; rfl) (keeps_M hf) (evalArgs_plain h)
end
end
section
/-- the end of a test within a comprehension -/
def TstEnd (h₀ : Heap) (L : Addr) (m : Str → Option Value) (X : List (Addr × Obj)) (pb : Bool) (s : Shared) (ok : Bool) (s' : Shared) : Prop :=
  ∃ h' tk', s' = { s with heap := h', toks := tk' } ∧ Fr h₀ L h' m ∧ News h₀ L h' X ∧ ok = pb
theorem TstEnd.mk {h₀ h' : Heap} {L : Addr} {m : Str → Option Value} {X : List (Addr × Obj)} {pb ok : Bool} {s : Shared} {tk' : Nat} (F : Fr h₀ L h' m) (N : News h₀ L h' X) (e : ok = pb) : TstEnd h₀ L m X pb s ok { s with heap := h', toks := tk' } := ⟨h', tk', rfl, F, N, e⟩
def picked (p : Value → Value → Bool) (prs : List (Value × Value)) : List Value := (prs.filter fun q => p q.1 q.2).map (·.2)
theorem picked_snoc (p : Value → Value → Bool) (prs : List (Value × Value)) (q : Value × Value) : picked p (prs ++ [q]) = picked p prs ++ if p q.1 q.2 = true then [q.2] else [] := by
  unfold picked
  rw [List.filter_append, List.map_append]
  congr 1
  by_cases h : p q.1 q.2 = true
  · rw [if_pos h, List.filter_cons_of_pos (p := fun q : Value × Value => p q.1 q.2) h]; rfl
  · rw [if_neg h, List.filter_cons_of_neg (p := fun q : Value × Value => p q.1 q.2) h]; rfl
theorem picked_len (p : Value → Value → Bool) (prs : List (Value × Value)) : (picked p prs).length ≤ prs.length := by
  unfold picked
  rw [List.length_map]
  exact List.length_filter_le _ _
section
variable {prog : Program} {w : World} {A : Around} {E : Value → Shared → Prop} {s : Shared} {h₀ : Heap} {L : Addr} {m : Str → Option Value} {env : Env} {elt c iter : Expr} {a b : Str} {pa pb tp : Pos} {kk : Nat} {scope : Scope} {cl : List (Str × Addr)} {pos : Pos}
/-- what lies at the source of a comprehension over a list of pairs, with a test; its elements are the second parts -/
def PairSrc (prog : Program) (w : World) (A : Around) (h₀ : Heap) (L : Addr) (m : Str → Option Value) (env : Env) (c elt : Expr) (a b : Str) (scope : Scope) (cl : List (Str × Addr)) (Q : Value → Shared → Prop) (xv : Value) (s₁ : Shared) : Prop :=
  ∃ (l : Addr) (vs : List Value) (k : Nat) (prs : List (Value × Value)) (p : Value → Value → Bool) (X : List (Addr × Obj)), xv = .ref l ∧ A.handled = none ∧ Fr h₀ L s₁.heap m ∧ News h₀ L s₁.heap X ∧ (l, listO vs k) ∈ X ∧ vs.length ≤ 1000 ∧ prs.length = vs.length ∧
    (∀ (i : Nat) (x y : Value), prs[i]? = some (x, y) → ∃ T k', vs[i]? = some (Value.ref T) ∧ (T, tupO [x, y] k') ∈ X) ∧
    (∀ (i : Nat) (x y : Value) (ys : List Value) I oI C oC D m₂ h tk (E' : Value → Shared → Prop), prs[i]? = some (x, y) → LCg.NsObj oC m₂ → m₂ a = some x → m₂ b = some y → Fr h₀ L h m → News h₀ L h ((I, oI) :: (C, oC) :: (D, LCg.lst ys) :: X) →
      wpAny (model prog w) A (isTrue c (compEnvC scope cl C env) (eval c (compEnvC scope cl C env))) (TstEnd h₀ L m ((I, oI) :: (C, oC) :: (D, LCg.lst ys) :: X) (p x y) { s₁ with heap := h, toks := tk }) E' { s₁ with heap := h, toks := tk }) ∧
    (∀ (i : Nat) (x y : Value) (ys : List Value) I oI C oC D m₂ h tk (E' : Value → Shared → Prop), prs[i]? = some (x, y) → p x y = true → LCg.NsObj oC m₂ → m₂ a = some x → m₂ b = some y → Fr h₀ L h m → News h₀ L h ((I, oI) :: (C, oC) :: (D, LCg.lst ys) :: X) →
      wpAny (model prog w) A (eval elt (compEnvC scope cl C env)) (EltEnd h₀ L m ((I, oI) :: (C, oC) :: (D, LCg.lst ys) :: X) (fun v => v = y) { s₁ with heap := h, toks := tk }) E' { s₁ with heap := h, toks := tk }) ∧
    ∀ D h tk, Fr h₀ L h m → News h₀ L h ((D, listO (picked p prs) (picked p prs).length) :: X) → (∀ q ∈ X, q.1 ≠ D) → Q (.ref D) { s₁ with heap := h, toks := tk }
theorem comp_pairs {Q : Value → Shared → Prop} (_F : Fr h₀ L s.heap m) (hclos : closureFor scope env = pure cl) (hcell : ∀ y ∈ scope.names, y.2 ≠ .cell) (hkind : scope.kind = .function)
    (hnames : ∀ y ∈ scope.names, y.2 = .local → scope.names.lookup y.1 = some .local) (hxa : scope.names.lookup a = some .local) (hxb : scope.names.lookup b = some .local) (hab : ¬ a = b)
    (h : wpAny (model prog w) A (eval iter env) (PairSrc prog w A h₀ L m env c elt a b scope cl Q) E s) (hs : ∀ x, foldedSetIterable iter env x = pure x) :
    wpAny (model prog w) A (eval (.ListComp elt [⟨.Tuple [.Name a pa, .Name b pb] kk tp, iter, [c], 0⟩] scope pos) env) Q E s := by
  rw [eval_ListComp]
  refine wpAny_comprehension_free (use := none) rfl hs hclos hkind hnames (wpAny_mono h (fun xv s₁ h₁ => ?_) fun _ _ e => e)
  obtain ⟨l, vs, k, prs, p, X, rfl, hh, F, N, hl, hz, hlen, hprs, tests, elts, fin⟩ := h₁
  have hls : s₁.heap.IsList l vs.toArray := isLst_of N hl
  have hlt := Heap.lt_size (N _ hl).1
  refine wpAny_pyIter_list hls ?_
  have up : ∀ b o, s₁.heap.get? b = some o → (s₁.heap.push { cls := .type "list_iterator", data := .fields #[.ref l, .int 0 0] }).get? b = some o := fun b o e => Heap.get?_push_of_some _ e
  have W := Walks.list (prog := prog) (w := w) hh s₁.heap.objs.size l (Nat.ne_of_lt hlt) vs.toArray
  rw [show vs.toArray.size = vs.length by simp] at W
  generalize hI : s₁.heap.objs.size = I at W
  have offI : ∀ q ∈ X, q.1 ≠ I := fun q hq => by rw [← hI]; exact Nat.ne_of_lt (Heap.lt_size (N q hq).1)
  have hI₀ : h₀.get? I = none := by rw [← hI]; exact next_is_new F
  have hIL : L ≠ I := by rw [← hI]; exact Nat.ne_of_lt F.ns.lt
  have F' := F.push ({ cls := .type "list_iterator", data := .fields #[.ref l, .int 0 0] } : Obj)
  have N' : News h₀ L (s₁.heap.push { cls := .type "list_iterator", data := .fields #[.ref l, .int 0 0] }) X := fun q hq => ⟨up _ _ (N q hq).1, (N q hq).2⟩
  have st0 : (s₁.heap.push { cls := .type "list_iterator", data := .fields #[.ref l, .int 0 0] }).IsListIter I l 0 ∧ (s₁.heap.push { cls := .type "list_iterator", data := .fields #[.ref l, .int 0 0] }).IsList l vs.toArray := by
    rw [← hI]; exact ⟨⟨_, Heap.get?_push_size _ rfl, rfl, rfl⟩, hls.push _⟩
  have hIlt : I < (s₁.heap.push { cls := .type "list_iterator", data := .fields #[.ref l, .int 0 0] }).objs.size := by rw [← hI, Heap.size_push]; exact Nat.lt_succ_self _
  generalize s₁.heap.push { cls := .type "list_iterator", data := .fields #[.ref l, .int 0 0] } = H at F' N' st0 hIlt
  have nl : l ≠ I := by rw [← hI]; exact Nat.ne_of_lt hlt
  clear hls up F N hlt
  rename Fr h₀ L H m => F
  rename News h₀ L H X => N
  have hllt : l < H.objs.size := Heap.lt_size (N _ hl).1
  refine wpAny_newObj_type (wpAny_newFunctionEnv hcell (by intro y hy; simp at hy) (fun h₁ hns₁ hsb₁ => ?_) hkind)
  dsimp only at hns₁ hsb₁ ⊢
  generalize hH2 : H.push { cls := .type "list", dict := none, data := .seq ([] : List Value).toArray } = H2 at hns₁ hsb₁ ⊢
  have hC : H2.objs.size = H.objs.size + 1 := by rw [← hH2, Heap.size_push]
  have hDC : H.objs.size ≠ H2.objs.size := by rw [hC]; exact Nat.ne_of_lt (Nat.lt_succ_self _)
  have below : ∀ b, b < H.objs.size → b ≠ H2.objs.size ∧ b ≠ H.objs.size := fun b hb => ⟨by rw [hC]; exact Nat.ne_of_lt (Nat.lt_succ_of_lt hb), Nat.ne_of_lt hb⟩
  have old : ∀ b o, H.get? b = some o → h₁.get? b = some o := fun b o e => hsb₁.extBut b o (below b (Heap.lt_size e)).1 (Heap.get?_push_of_some _ (hH2 ▸ Heap.get?_push_of_some _ e))
  have hacc : h₁.get? H.objs.size = some (LCg.lst []) := hsb₁.extBut _ _ hDC (Heap.get?_push_of_some _ (hH2 ▸ Heap.get?_push_size _ rfl))
  have fresh : ∀ d, H.objs.size ≤ d → h₀.get? d = none := fun d hd => by
    cases e : h₀.get? d with
    | none => rfl
    | some o' => exact absurd (Heap.lt_size (F.keep d o' e)) (Nat.not_lt.mpr hd)
  have hD₀ : h₀.get? H.objs.size = none := fresh _ (Nat.le_refl _)
  have hC₀ : h₀.get? H2.objs.size = none := fresh _ (by rw [hC]; exact Nat.le_succ _)
  have hLlt : L < H.objs.size := F.ns.lt
  have hDL : H.objs.size ≠ L := Ne.symm (below L hLlt).2
  have hCL : H2.objs.size ≠ L := Ne.symm (below L hLlt).1
  have hCI : I ≠ H2.objs.size := (below I hIlt).1
  have hDI : I ≠ H.objs.size := (below I hIlt).2
  have offD : ∀ q ∈ X, q.1 ≠ H.objs.size := fun q hq => (below _ (Heap.lt_size (N q hq).1)).2
  have offC : ∀ q ∈ X, q.1 ≠ H2.objs.size := fun q hq => (below _ (Heap.lt_size (N q hq).1)).1
  have st1 : h₁.IsListIter I l 0 ∧ h₁.IsList l vs.toArray := W.frame _ _ _ st0 fun b _ o e => old b o e
  have N₁ : News h₀ L h₁ ((H.objs.size, LCg.lst []) :: X) := fun q hq => by
    rcases List.mem_cons.mp hq with rfl | hq
    · exact ⟨hacc, hDL, hD₀⟩
    · exact ⟨old _ _ (N q hq).1, (N q hq).2⟩
  have F₁ := F.keeps old
  generalize hDn : H.objs.size = D at *
  generalize hCn : H2.objs.size = C at *
  have loop : ∀ s₃ : Shared, s₃ = { s₁ with heap := h₁, toks := s₁.toks + ([] : List (Str × Value)).length } →
      codeAny (model prog w) A (.compLoop (.ListComp elt [⟨.Tuple [.Name a pa, .Name b pb] kk tp, iter, [c], 0⟩] scope pos) 0 (.ref I) (.ref D) (compEnvC scope cl C env))
        (fun r s' => compPost (model prog w) A E none Q (.ref D) C r s') s₃ := by
    rintro s₃ rfl
    refine kct_loop (fun n s' => ∃ h' tk i m', s' = { s₁ with heap := h', toks := tk } ∧ i ≤ vs.length ∧ n = vs.length + 1 - i ∧ (h'.IsListIter I l i ∧ h'.IsList l vs.toArray) ∧ Fr h₀ L h' m ∧ h'.Ns C m' ∧ News h₀ L h' ((D, LCg.lst (picked p (prs.take i))) :: X)) ?_ (vs.length + 1)
      ⟨h₁, _, 0, _, rfl, Nat.zero_le _, rfl, st1, F₁, hns₁, N₁⟩
    rintro n s' ⟨h', tk, i, m', rfl, hi, rfl, hst', F', hn', N'⟩
    by_cases hlt : i < vs.length
    · refine W.item i _ _ _ hlt hst' fun v h₂ tk₂ hPv hst₂ hk₂ => ?_
      have hp : i < prs.length := by rw [hlen]; exact hlt
      have hpe : prs[i]? = some prs[i] := List.getElem?_eq_getElem hp
      generalize prs[i] = xy at hpe
      obtain ⟨x, y⟩ := xy
      obtain ⟨T, k', hT, hTX⟩ := hprs i x y hpe
      have hv : v = .ref T := by
        have : vs[i]? = some v := by simpa using hPv
        rw [hT] at this
        exact (Option.some.inj this).symm
      subst hv
      have up2 : ∀ b o, b ≠ I → h'.get? b = some o → h₂.get? b = some o := fun b o hb e => hk₂ b o (by simpa using hb) e
      refine wpAny_letOwnedTupleGo_listiter hst₂.1 ?_
      have hTup : h₂.IsTuple T #[x, y] := ⟨_, up2 _ _ (offI _ hTX) (N' _ (.tail _ hTX)).1, rfl, k', rfl⟩
      refine kcp_assign (env := compEnvC scope cl C env) hh hTup (lookup_relabel_local hxa) (lookup_relabel_local hxb) (by simp [compEnvC, relabel, hkind]) (hn'.at' fun o e => up2 _ o (Ne.symm hCI) e) fun h₄ tk₄ hn₄ hs₄ => ?_
      have up4 : ∀ b o, b ≠ I → b ≠ C → h'.get? b = some o → h₄.get? b = some o := fun b o h1 h2 e => hs₄ b o h2 (up2 b o h1 e)
      obtain ⟨oI, heI, hoI⟩ : ∃ oI : Obj, h₂.get? I = some oI ∧ ∀ h : Heap, h.get? I = some oI → h.IsListIter I l (i + 1) := by
        obtain ⟨o, e, r⟩ := hst₂.1
        exact ⟨o, e, fun h e' => ⟨o, e', r⟩⟩
      have heI4 : h₄.get? I = some oI := hs₄ _ _ hCI heI
      obtain ⟨oC, heC, hoC⟩ := LCg.ns_obj hn₄
      have F₄ : Fr h₀ L h₄ m := ⟨F'.ns.at' fun o e => up4 _ o hIL (Ne.symm hCL) e, fun d o e => up4 d o (fun q => by rw [q, hI₀] at e; cases e) (fun q => by rw [q, hC₀] at e; cases e) (F'.keep d o e), F'.above⟩
      have N₄ : News h₀ L h₄ ((I, oI) :: (C, oC) :: (D, LCg.lst (picked p (prs.take i))) :: X) := fun q hq => by
        rcases List.mem_cons.mp hq with rfl | hq
        · exact ⟨heI4, Ne.symm hIL, hI₀⟩
        rcases List.mem_cons.mp hq with rfl | hq
        · exact ⟨heC, hCL, hC₀⟩
        rcases List.mem_cons.mp hq with rfl | hq
        · exact ⟨up4 _ _ (Ne.symm hDI) hDC (N' _ (.head _)).1, hDL, hD₀⟩
        · exact ⟨up4 _ _ (offI q hq) (offC q hq) (N' _ (.tail _ hq)).1, (N q hq).2⟩
      have htk : picked p (prs.take (i + 1)) = picked p (prs.take i) ++ if p x y = true then [y] else [] := by
        rw [List.take_add_one, hpe]; exact picked_snoc ..
      have keepL : ∀ h5 : Heap, News h₀ L h5 X → h5.get? I = some oI → h5.IsListIter I l (i + 1) ∧ h5.IsList l vs.toArray := fun h5 N5 e => ⟨hoI h5 e, isLst_of (s := { s₁ with heap := h5 }) N5 hl⟩
      refine wpAny_mono (tests i x y _ I oI C oC D _ h₄ tk₄ _ hpe hoC (by simp [hab]) (by simp) F₄ N₄) (fun ok s₅ h₅ => ?_) fun _ _ e => e
      obtain ⟨h5, tk5, rfl, F5, N5, rfl⟩ := h₅
      by_cases hpx : p x y = true
      · rw [if_pos hpx] at htk ⊢
        refine wpAny_mono (elts i x y _ I oI C oC D _ h5 tk5 _ hpe hpx hoC (by simp [hab]) (by simp) F5 N5) (fun v s₆ h₆ => ?_) fun _ _ e => e
        obtain ⟨h6, tk6, rfl, F6, N6, rfl⟩ := h₆
        have zD := (N6 _ (.tail _ (.tail _ (.head _)))).1
        refine append_at (hsz := by show (picked p (prs.take i)).toArray.size ≤ sizeLine; rw [List.size_toArray, sizeLine_eq]; have h1 := picked_len p (prs.take i); rw [List.length_take] at h1; omega) zD fun h7 hs7 hD7 => ?_
        have N7 : News h₀ L h7 X := fun q hq => ⟨hs7.extBut _ _ (offD q hq) (N6 _ (.tail _ (.tail _ (.tail _ hq)))).1, (N q hq).2⟩
        refine ⟨vs.length + 1 - (i + 1), by omega, h7, _, i + 1, _, rfl, hlt, rfl, keepL h7 N7 (hs7.extBut _ _ hDI (N6 _ (.head _)).1), F6.change hs7 hDL hD₀, (hoC.ns (N6 _ (.tail _ (.head _))).1).sameBut hs7 (Ne.symm hDC), fun q hq => ?_⟩
        rcases List.mem_cons.mp hq with rfl | hq
        · rw [htk]
          exact ⟨hD7.trans (congrArg some (LCg.lst_snoc _ v)), hDL, hD₀⟩
        · exact N7 q hq
      · rw [if_neg hpx] at htk ⊢
        rw [List.append_nil] at htk
        have N7 : News h₀ L h5 X := fun q hq => N5 _ (.tail _ (.tail _ (.tail _ hq)))
        refine ⟨vs.length + 1 - (i + 1), by omega, h5, _, i + 1, _, rfl, hlt, rfl, keepL h5 N7 (N5 _ (.head _)).1, F5, hoC.ns (N5 _ (.tail _ (.head _))).1, fun q hq => ?_⟩
        rw [htk] at hq
        exact N5 _ (.tail _ (.tail _ hq))
    · obtain rfl : i = vs.length := Nat.le_antisymm hi (Nat.not_lt.mp hlt)
      refine W.done _ _ _ hst' fun h₂ tk₂ hk₂ => ?_
      have up2 : ∀ b o, b ≠ I → h'.get? b = some o → h₂.get? b = some o := fun b o hb e => hk₂ b o (by simpa using hb) e
      have htk : prs.take vs.length = prs := by rw [← hlen]; exact List.take_length
      rw [htk] at N'
      refine ⟨m', hn'.at' fun o e => up2 _ o (Ne.symm hCI) e, fun h'' hs'' => ?_⟩
      have F2 : Fr h₀ L h₂ m := ⟨F'.ns.at' fun o e => up2 _ o hIL e, fun d o e => up2 d o (fun q => by rw [q, hI₀] at e; cases e) (F'.keep d o e), F'.above⟩
      refine fin D h'' tk₂ (F2.change hs'' hCL hC₀) (fun q hq => ?_) offD
      rcases List.mem_cons.mp hq with rfl | hq
      · exact ⟨hs''.extBut _ _ hDC (up2 _ _ (Ne.symm hDI) (N' _ (.head _)).1), hDL, hD₀⟩
      · exact ⟨hs''.extBut _ _ (offC q hq) (up2 _ _ (offI q hq) (N' _ (.tail _ hq)).1), (N q hq).2⟩
  exact codeAny_compStart_list (loop _ rfl) (W.self 0 _ _ _ st1 (loop _ rfl))
end
end
section
/-- the tree of questions, answered by c -/
def qRun {α : Type} (n : Nat) (c : Nat → Nat → Bool) : KasT α → Option α
  | .ret a => some a
  | .ask i j k => if i < n ∧ j < n then qRun n c (k (c i j)) else none
theorem qRun_wp {α : Type} {n : Nat} {c : Nat → Nat → Bool} {cmp : Nat → Nat → (Bool → Shared → Prop) → Shared → Prop} {Q : α → Shared → Prop} {s : Shared} (hc : ∀ i j C, i < n → j < n → C (c i j) s → cmp i j C s) : ∀ (t : KasT α) (a : α), qRun n c t = some a → Q a s → t.kasWp cmp Q s
  | .ret a, b, e, h => by
    have : a = b := Option.some.inj e
    subst this; exact h
  | .ask i j k, b, e, h => by
    unfold qRun at e
    split at e
    · rename_i hij
      exact hc i j _ hij.1 hij.2 (qRun_wp hc (k (c i j)) b e h)
    · cases e
def chk (v : List Nat) : Bool := match qRun 6 (fun i j => decide (v.getD i 0 < v.getD j 0)) (kas_sort 6) with
  | some p => (p.toList.map fun i => v.getD i 0) == [0, 1, 2, 3, 4, 5] && p.toList.all fun i => decide (i < 6)
  | none => false
def allC (a b : Nat) : Bool := a == b || (List.range 6).all fun c => a == c || b == c || (List.range 6).all fun d => a == d || b == d || c == d || (List.range 6).all fun e => a == e || b == e || c == e || d == e || (List.range 6).all fun f => a == f || b == f || c == f || d == f || e == f || chk [a, b, c, d, e, f]
theorem all0 : ∀ b, b < 6 → allC 0 b = true := by decide +kernel
theorem all1 : ∀ b, b < 6 → allC 1 b = true := by decide +kernel
theorem all2 : ∀ b, b < 6 → allC 2 b = true := by decide +kernel
theorem all3 : ∀ b, b < 6 → allC 3 b = true := by decide +kernel
theorem all4 : ∀ b, b < 6 → allC 4 b = true := by decide +kernel
theorem all5 : ∀ b, b < 6 → allC 5 b = true := by decide +kernel
theorem chk_all {a b c d e f : Nat} (ha : a < 6) (hb : b < 6) (hc : c < 6) (hd : d < 6) (he : e < 6) (hf : f < 6) (hn : [a, b, c, d, e, f].Nodup) : chk [a, b, c, d, e, f] = true := by
  have h : allC a b = true := by
    have : a = 0 ∨ a = 1 ∨ a = 2 ∨ a = 3 ∨ a = 4 ∨ a = 5 := by omega
    rcases this with rfl | rfl | rfl | rfl | rfl | rfl
    · exact all0 b hb
    · exact all1 b hb
    · exact all2 b hb
    · exact all3 b hb
    · exact all4 b hb
    · exact all5 b hb
  simp only [List.nodup_cons, List.mem_cons, List.not_mem_nil, or_false, not_or] at hn
  obtain ⟨⟨n1, n2, n3, n4, n5⟩, ⟨n6, n7, n8, n9⟩, ⟨n10, n11, n12⟩, ⟨n13, n14⟩, n15, -⟩ := hn
  unfold allC at h
  rw [beq_eq_false_iff_ne.mpr n1, Bool.false_or] at h
  have h := List.all_eq_true.mp h c (List.mem_range.mpr hc)
  rw [beq_eq_false_iff_ne.mpr n2, beq_eq_false_iff_ne.mpr n6, Bool.false_or, Bool.false_or] at h
  have h := List.all_eq_true.mp h d (List.mem_range.mpr hd)
  rw [beq_eq_false_iff_ne.mpr n3, beq_eq_false_iff_ne.mpr n7, beq_eq_false_iff_ne.mpr n10, Bool.false_or, Bool.false_or, Bool.false_or] at h
  have h := List.all_eq_true.mp h e (List.mem_range.mpr he)
  rw [beq_eq_false_iff_ne.mpr n4, beq_eq_false_iff_ne.mpr n8, beq_eq_false_iff_ne.mpr n11, beq_eq_false_iff_ne.mpr n13, Bool.false_or, Bool.false_or, Bool.false_or, Bool.false_or] at h
  have h := List.all_eq_true.mp h f (List.mem_range.mpr hf)
  rw [beq_eq_false_iff_ne.mpr n5, beq_eq_false_iff_ne.mpr n9, beq_eq_false_iff_ne.mpr n12, beq_eq_false_iff_ne.mpr n14, beq_eq_false_iff_ne.mpr n15, Bool.false_or, Bool.false_or, Bool.false_or, Bool.false_or, Bool.false_or] at h
  exact h
theorem six_list {α : Type} : ∀ {l : List α}, l.length = 6 → ∃ a b c d e f, l = [a, b, c, d, e, f]
  | [a, b, c, d, e, f], _ => ⟨a, b, c, d, e, f, rfl⟩
section
variable {prog : Program} {w : World} {A : Around} {E : Value → Shared → Prop} {s : Shared} {h₀ : Heap} {L : Addr} {m : Str → Option Value}
/-- sorting six pairs whose first parts are 0 to 5 in some order -/
theorem sort_told {l : Addr} {tvs : List Value} {k : Nat} {X : List (Addr × Obj)} {Q : Value → Shared → Prop} {da o : Nat → Nat} {wv : Nat → Int} (F : Fr h₀ L s.heap m) (N : News h₀ L s.heap X) (hl : (l, listO tvs k) ∈ X) (hlen : tvs.length = 6)
    (htv : ∀ j, j < 6 → tvs[j]? = some (Value.ref (da j))) (hob : ∀ j, j < 6 → ∃ t t' k', (da j, tupO [.int (o j : Nat) t, .int (wv j) t'] k') ∈ X) (ho : ∀ j, j < 6 → o j < 6) (hinj : ∀ i, i < 6 → ∀ j, j < 6 → o i = o j → i = j)
    (h : ∀ D c h' out, Fr h₀ L h' m → News h₀ L h' ((D, listO out c) :: X) → (∀ q ∈ X, q.1 < D) → out.length = 6 → (∀ v, v < 6 → ∃ j, j < 6 ∧ o j = v ∧ out[v]? = some (Value.ref (da j))) → Q (.ref D) { s with heap := h' }) :
    wpAny (model prog w) A (call (.builtin "sorted") [.ref l]) Q E s := by
  refine kat_sorted F N (isLst_of N hl) (by omega) (by omega) fun D e1 h' F' N' lD => ?_
  have NX : News h₀ L h' X := fun q hq => N' q (.tail _ hq)
  obtain ⟨x0, x1, x2, x3, x4, x5, rfl⟩ := six_list hlen
  have e0 : x0 = .ref (da 0) := Option.some.inj (htv 0 (by omega))
  have e1' : x1 = .ref (da 1) := Option.some.inj (htv 1 (by omega))
  have e2 : x2 = .ref (da 2) := Option.some.inj (htv 2 (by omega))
  have e3 : x3 = .ref (da 3) := Option.some.inj (htv 3 (by omega))
  have e4 : x4 = .ref (da 4) := Option.some.inj (htv 4 (by omega))
  have e5 : x5 = .ref (da 5) := Option.some.inj (htv 5 (by omega))
  subst e0 e1' e2 e3 e4 e5
  obtain ⟨t0, u0, k0, g0⟩ := hob 0 (by omega)
  obtain ⟨t1, u1, k1, g1⟩ := hob 1 (by omega)
  obtain ⟨t2, u2, k2, g2⟩ := hob 2 (by omega)
  obtain ⟨t3, u3, k3, g3⟩ := hob 3 (by omega)
  obtain ⟨t4, u4, k4, g4⟩ := hob 4 (by omega)
  obtain ⟨t5, u5, k5, g5⟩ := hob 5 (by omega)
  refine kat_kind (fs := [.int (o 0 : Nat) t0, .int (o 1 : Nat) t1, .int (o 2 : Nat) t2, .int (o 3 : Nat) t3, .int (o 4 : Nat) t4, .int (o 5 : Nat) t5]) (T := .type "int")
    (KatTups.cons (NX _ g0).1 rfl rfl rfl (KatTups.cons (NX _ g1).1 rfl rfl rfl (KatTups.cons (NX _ g2).1 rfl rfl rfl (KatTups.cons (NX _ g3).1 rfl rfl rfl (KatTups.cons (NX _ g4).1 rfl rfl rfl (KatTups.cons (NX _ g5).1 rfl rfl rfl KatTups.nil)))))) (Nat.succ_pos _) (fun v hv => ?_) rfl ?_
  · simp only [List.mem_cons, List.not_mem_nil, or_false] at hv
    rcases hv with rfl | rfl | rfl | rfl | rfl | rfl <;> exact Looks.of_pure rfl
  have hck : chk [o 0, o 1, o 2, o 3, o 4, o 5] = true := by
    refine chk_all (ho 0 (by omega)) (ho 1 (by omega)) (ho 2 (by omega)) (ho 3 (by omega)) (ho 4 (by omega)) (ho 5 (by omega)) ?_
    have ne : ∀ i j, i < 6 → j < 6 → i ≠ j → ¬ o i = o j := fun i j hi hj hn e => hn (hinj i hi j hj e)
    simp only [List.nodup_cons, List.mem_cons, List.not_mem_nil, or_false, not_or]
    refine ⟨⟨?_, ?_, ?_, ?_, ?_⟩, ⟨?_, ?_, ?_, ?_⟩, ⟨?_, ?_, ?_⟩, ⟨?_, ?_⟩, ?_, not_false, List.nodup_nil⟩ <;> exact ne _ _ (by decide) (by decide) (by decide)
  unfold chk at hck
  cases hr : qRun 6 (fun i j => decide ([o 0, o 1, o 2, o 3, o 4, o 5].getD i 0 < [o 0, o 1, o 2, o 3, o 4, o 5].getD j 0)) (kas_sort 6) with
  | none => rw [hr] at hck; cases hck
  | some p =>
    rw [hr] at hck
    obtain ⟨hs, hb⟩ := (Bool.and_eq_true _ _).mp hck
    have hs := eq_of_beq hs
    have hgo : ∀ i, i < 6 → [o 0, o 1, o 2, o 3, o 4, o 5].getD i 0 = o i := fun i hi => by
      have : i = 0 ∨ i = 1 ∨ i = 2 ∨ i = 3 ∨ i = 4 ∨ i = 5 := by omega
      rcases this with rfl | rfl | rfl | rfl | rfl | rfl <;> rfl
    have hgv : ∀ i, i < 6 → [Value.ref (da 0), .ref (da 1), .ref (da 2), .ref (da 3), .ref (da 4), .ref (da 5)].getD i Value.none = .ref (da i) := fun i hi => by
      have : i = 0 ∨ i = 1 ∨ i = 2 ∨ i = 3 ∨ i = 4 ∨ i = 5 := by omega
      rcases this with rfl | rfl | rfl | rfl | rfl | rfl <;> rfl
    refine qRun_wp (n := 6) (c := fun i j => decide ([o 0, o 1, o 2, o 3, o 4, o 5].getD i 0 < [o 0, o 1, o 2, o 3, o 4, o 5].getD j 0)) (fun i j C hi hj hC => ?_) (kas_sort 6) p hr ?_
    · unfold kas_ask
      rw [hgv i hi, hgv j hj]
      obtain ⟨ti, ui, ki, gi⟩ := hob i hi
      obtain ⟨tj, uj, kj, gj⟩ := hob j hj
      refine kat_lt (NX _ gi).1 rfl (NX _ gj).1 rfl ?_
      rw [hgo i hi, hgo j hj] at hC
      refine kat_cons (wpAny_eqBool_int ?_)
      by_cases e : o i = o j
      · have e' : i = j := hinj i hi j hj e
        subst e'
        rw [beq_self_eq_true]
        refine kat_yes (kat_cons (wpAny_eqBool_int ?_))
        rw [beq_self_eq_true]
        refine kat_yes (kat_nil ?_)
        have : decide (o i < o i) = false := decide_eq_false (Nat.lt_irrefl _)
        rw [this] at hC
        exact hC
      · have : (((o i : Nat) : Int) == ((o j : Nat) : Int)) = false := beq_eq_false_iff_ne.mpr fun q => e (by omega)
        rw [this]
        refine kat_no (oneLt_int ?_)
        have : decide (((o i : Nat) : Int) < ((o j : Nat) : Int)) = decide (o i < o j) := by
          by_cases q : o i < o j
          · rw [decide_eq_true q, decide_eq_true (by omega)]
          · rw [decide_eq_false q, decide_eq_false (by omega)]
        rw [this]
        exact hC
    · refine KasFin.intro F' N' (.head fun q hq => Nat.ne_of_lt (lD q hq)) fun h'' c F'' N'' => ?_
      have hpl : p.toList.length = 6 := by
        have := congrArg List.length hs
        simpa using this
      refine h D c h'' _ F'' N'' lD (by rw [List.length_map, hpl]) fun v hv => ?_
      have hv' : v < p.toList.length := by omega
      have hpe : p.toList[v]? = some p.toList[v] := List.getElem?_eq_getElem hv'
      generalize p.toList[v] = i at hpe
      have hi : i < 6 := of_decide_eq_true (List.all_eq_true.mp hb i (List.mem_of_getElem? hpe))
      refine ⟨i, hi, ?_, ?_⟩
      · have h2 := congrArg (fun l => l[v]?) hs
        simp only [List.getElem?_map, hpe, Option.map_some] at h2
        rw [hgo i hi] at h2
        have : v = 0 ∨ v = 1 ∨ v = 2 ∨ v = 3 ∨ v = 4 ∨ v = 5 := by omega
        rcases this with rfl | rfl | rfl | rfl | rfl | rfl <;> exact Option.some.inj h2
      · rw [List.getElem?_map, hpe, Option.map_some, hgv i hi]
end
end
section
section
variable {prog : Program} {w : World} {A : Around} {E : Value → Shared → Prop} {s : Shared} {h₀ : Heap} {L : Addr} {m : Str → Option Value}
theorem add_X {l b : Addr} {vs ws : List Value} {k j : Nat} {X : List (Addr × Obj)} {Q : Value → Shared → Prop} (F : Fr h₀ L s.heap m) (N : News h₀ L s.heap X) (hl : (l, listO vs k) ∈ X) (hb : (b, listO ws j) ∈ X) (hz : vs.length + ws.length ≤ 1000)
    (h : ∀ D h', Fr h₀ L h' m → News h₀ L h' ((D, listO (vs ++ ws) 0) :: X) → (∀ q ∈ X, q.1 < D) → Q (.ref D) { s with heap := h' }) : wpAny (model prog w) A (binaryOp .Add (.ref l) (.ref b)) Q E s :=
  add_lists F N (isLst_of N hl) (isLst_of N hb) (fun h' F' N' => h _ h' F' N' fun q hq => Heap.lt_size (N q hq).1) (by rw [sizeLine_eq]; omega)
theorem read_told {l : Addr} {vs : List Value} {k : Nat} {X : List (Addr × Obj)} {wv : Nat → Int} (N : News h₀ L s.heap X) (hl : (l, listO vs k) ∈ X) (hlen : vs.length = 6)
    (ht : ∀ v, v < 6 → ∃ T t t' k', vs[v]? = some (Value.ref T) ∧ (T, tupO [.int (v : Nat) t, .int (wv v) t'] k') ∈ X) :
    ∃ as, Reads s.heap (.ref l) (.list [.tuple [.int 0, .int (wv 0)], .tuple [.int 1, .int (wv 1)], .tuple [.int 2, .int (wv 2)], .tuple [.int 3, .int (wv 3)], .tuple [.int 4, .int (wv 4)], .tuple [.int 5, .int (wv 5)]]) as := by
  obtain ⟨x0, x1, x2, x3, x4, x5, rfl⟩ := six_list hlen
  have one : ∀ v, v < 6 → ∀ x, [x0, x1, x2, x3, x4, x5][v]? = some x → Reads s.heap x (.tuple [.int (v : Nat), .int (wv v)]) [] := fun v hv x hx => by
    obtain ⟨T, t, t', k', h1, h2⟩ := ht v hv
    rw [hx] at h1
    have : x = .ref T := Option.some.inj h1
    subst this
    exact .tuple (N _ h2).1 rfl rfl (.cons (.int _ _) (.cons (.int _ _) .nil))
  exact ⟨_, .list (N _ hl).1 rfl rfl (.cons (one 0 (by omega) _ rfl) (.cons (one 1 (by omega) _ rfl) (.cons (one 2 (by omega) _ rfl) (.cons (one 3 (by omega) _ rfl) (.cons (one 4 (by omega) _ rfl) (.cons (one 5 (by omega) _ rfl) .nil))))))⟩
theorem eq_told {l b : Addr} {vs ws : List Value} {k j : Nat} {X : List (Addr × Obj)} {wv : Nat → Int} {Q : Value → Shared → Prop} (N : News h₀ L s.heap X) (hl : (l, listO vs k) ∈ X) (hb : (b, listO ws j) ∈ X) (hlen : vs.length = 6) (hlen2 : ws.length = 6)
    (h1 : ∀ v, v < 6 → ∃ T t t' k', vs[v]? = some (Value.ref T) ∧ (T, tupO [.int (v : Nat) t, .int (wv v) t'] k') ∈ X)
    (h2 : ∀ v, v < 6 → ∃ T t t' k', ws[v]? = some (Value.ref T) ∧ (T, tupO [.int (v : Nat) t, .int (wv v) t'] k') ∈ X) (hu : A.units + 64 < cLine)
    (h : Q (.bool true) s) : wpAny (model prog w) A (compareOp .Eq (.ref l) (.ref b)) Q E s := by
  obtain ⟨as, r1⟩ := read_told N hl hlen h1
  obtain ⟨bs, r2⟩ := read_told N hb hlen2 h2
  refine eq_dataH r1 r2 (by rfl) (by rfl) hu ?_
  simp only [PyData.eqv, PyData.eqvAll, decide_true, Bool.and_true, beq_self_eq_true]
  exact h
end
end
section
section
variable {prog : Program} {w : World} {A : Around} {E : Value → Shared → Prop} {s : Shared} {h₀ : Heap} {L : Addr} {m : Str → Option Value} {env : Env} {elt : Expr} {x : Str} {scope : Scope} {cl : List (Str × Addr)}
/-- the end of an element that may put new objects onto the ledger -/
def EltEndG (h₀ : Heap) (L : Addr) (m : Str → Option Value) (I : Addr) (oI : Obj) (C : Addr) (oC : Obj) (D : Addr) (oD : Obj) (J : Value → List (Addr × Obj) → Prop) (s : Shared) (y : Value) (s' : Shared) : Prop :=
  ∃ h' tk' Y, s' = { s with heap := h', toks := tk' } ∧ Fr h₀ L h' m ∧ News h₀ L h' ((I, oI) :: (C, oC) :: (D, oD) :: Y) ∧ (∀ q ∈ Y, q.1 ≠ I ∧ q.1 ≠ C ∧ q.1 ≠ D) ∧ J y Y
theorem EltEndG.mk {I C D : Addr} {oI oC oD : Obj} {J : Value → List (Addr × Obj) → Prop} {y : Value} {h' : Heap} {tk' : Nat} {Y : List (Addr × Obj)} (F : Fr h₀ L h' m) (N : News h₀ L h' ((I, oI) :: (C, oC) :: (D, oD) :: Y)) (ho : ∀ q ∈ Y, q.1 ≠ I ∧ q.1 ≠ C ∧ q.1 ≠ D) (hJ : J y Y) :
    EltEndG h₀ L m I oI C oC D oD J s y { s with heap := h', toks := tk' } := ⟨h', tk', Y, rfl, F, N, ho, hJ⟩
/-- a comprehension over range(b) whose elements may make objects -/
theorem comp_rngG {r : Addr} {b : Int} {t u v : Tok} {n : Nat} {X : List (Addr × Obj)} {Fin : Shared → List Value → List (Addr × Obj) → Prop} (J : Nat → List Value → List (Addr × Obj) → Prop)
    (hh : A.handled = none) (F : Fr h₀ L s.heap m) (N : News h₀ L s.heap X) (hr : IsRange s.heap r 0 b 1 t u v) (hsm : Builtin.Range.small 0 b 1 = true) (hn : Builtin.Range.rangeSize 0 b 1 = (n : Int)) (hsz : n ≤ 100000) (hJ : J 0 [] X)
    (eltH : ∀ (i : Nat) (t' : Tok) (ys : List Value) (Y : List (Addr × Obj)) I oI C oC D m₂ h tk (E' : Value → Shared → Prop), i < n → J i ys Y → (∀ q ∈ Y, q.1 ≠ I ∧ q.1 ≠ C ∧ q.1 ≠ D) → LCg.NsObj oC m₂ → m₂ x = some (Value.int (i : Int) t') → Fr h₀ L h m → News h₀ L h ((I, oI) :: (C, oC) :: (D, LCg.lst ys) :: Y) →
      wpAny (model prog w) A (eval elt (compEnvC scope cl C env)) (EltEndG h₀ L m I oI C oC D (LCg.lst ys) (fun y Y' => J (i + 1) (ys ++ [y]) Y') { s with heap := h, toks := tk }) E' { s with heap := h, toks := tk })
    (fin : ∀ g ys Y, J n ys Y → Fin { s with heap := g } ys Y) : LCg.CompSrc prog w A h₀ L m env elt x scope cl Fin (.ref r) s := by
  refine LCg.CompSrc.range hh F N hr hsm hn (by rw [sizeLine_eq]; omega) fun g => ?_
  have main : ∀ k i ys Y, i + k = n → J i ys Y → LCg.CompRest prog w A h₀ L m env elt x scope cl { s with heap := g } (fun _ => True) (fun i v => ∃ t, v = .int (0 + (i : Int)) t) (Fin { s with heap := g }) k i ys Y := by
    intro k
    induction k with
    | zero =>
      intro i ys Y hi hJ
      have : i = n := by omega
      subst this
      exact LCg.CompRest.zero (fin g ys Y hJ)
    | succ k ih =>
      intro i ys Y hi hJ
      refine LCg.CompRest.succ fun v' I oI C oC D m₂ h tk E' hP hC hx F1 N1 off ne => ?_
      obtain ⟨t', rfl⟩ := hP
      have e : (0 : Int) + (i : Int) = (i : Int) := by omega
      rw [e] at hx
      refine wpAny_mono (eltH i t' ys Y I oI C oC D m₂ h tk E' (by omega) hJ off.mem hC hx F1 N1) (fun y s' hy => ?_) fun _ _ e => e
      obtain ⟨h', tk', Y', rfl, F', N', ho, hJ'⟩ := hy
      exact ⟨h', tk', Y', rfl, F', N', LCg.Off3.of ho, trivial, ih (i + 1) (ys ++ [y]) Y' (by omega) hJ'⟩
  exact main n 0 [] X (by omega) hJ
end
end
local macro_rules | `(tactic| k_all) => `(tactic| first | assumption | exact off_ne | exact ne_of_all (by assumption) (by omega))
local macro_rules | `(tactic| walk_at "getMethod ref") => `(tactic| (k_here; (with_reducible show wpAny _ _ (getMethod (Value.ref _) (Str.ofString "get") _) _ _ _); k_dflt (refine kdg_method (knd := PySem.intKind _ _) (by k_asm) (by k_mem) (by assumption) ?_)))
local macro_rules | `(tactic| walk_at "call builtin:dict.get") => `(tactic| (k_here; k_dflt (refine kdg_get1 (knd := PySem.intKind _ _) (by k_asm) (by k_mem) (by assumption) (by assumption) (intKind_is _ _ _ _) _ (by assumption) ?_); (try dsimp only [Option.getD])))
local macro_rules | `(tactic| k_room) => `(tactic| ((try simp only [depth_under_make, depth_under_kw, depth_in1, depth_deeper, depth_caller]); (try dsimp only [ktrTop]); (simp only [recursionLimit]); omega))
local macro_rules | `(tactic| k_units) => `(tactic| ((try simp only [units_in1, units_deeper, Around.mark_units, units_caller]); (try dsimp only [ktrTop]); (have hcL9 := cLine_is); omega))
local macro_rules | `(tactic| k_mem) => `(tactic| first | with_reducible assumption | with_reducible exact List.mem_cons_self | (with_reducible refine List.mem_cons_of_mem _ ?_; k_mem) | (with_reducible refine mem_off ?_ (by first | assumption | exact Ne.symm (by assumption)); k_mem))
local macro_rules | `(tactic| walk_at "setItem ref int") => `(tactic| (k_here; k_dflt (refine' kda_set (knd := PySem.intKind _ _) ?F (focus ?N ?m) (UpdF.head off_ne) ?d (intKind_is _ _ _ _) ?z ?_; (case F => k_asm); (case N => k_asm); (case m => k_mem); (case d => assumption); (case z => first | assumption | (rw [sizeLine_eq]; omega))); intro h' o' F' N' hd'))
local macro_rules | `(tactic| walk_at "call ref") => `(tactic| ((first | (with_reducible show wpAny _ _ (call (Value.ref 87) _) _ _ _) | (with_reducible show wpAny _ _ (call (Value.ref 28) _) _ _ _)); refine Stop.out ?_))
local macro_rules | `(tactic| walk_at "call builtin:len") => `(tactic| (k_here; (with_reducible show wpAny _ _ (call (Value.builtin "len") [Value.ref _]) _ _ _); k_dflt (first | (refine' len_tupX ?N ?m ?z ?_; (case N => k_asm); (case m => k_mem); (case z => omega)) | (refine' len_lstX ?N ?m ?z ?_; (case N => k_asm); (case m => k_mem); (case z => omega)))))
local macro_rules | `(tactic| walk_at "call type:bool") => `(tactic| (k_here; (with_reducible show wpAny _ _ (call (Value.type "bool") [Value.ref _]) _ _ _); k_dflt (refine' call_bool_lst ?N ?m ?z ?_; (case N => k_asm); (case m => k_mem); (case z => omega))))
local macro_rules | `(tactic| walk_at "truthy ref") => `(tactic| (k_here; (with_reducible show wpAny _ _ (truthy (Value.ref _)) _ _ _); k_dflt (refine' truthy_lst ?N ?m ?z ?_; (case N => k_asm); (case m => k_mem); (case z => omega))))
local macro_rules | `(tactic| walk_at "call builtin:list.append") => `(tactic| (k_here; (with_reducible show wpAny _ _ (call (Value.builtin _) [Value.ref _, _]) _ _ _); k_dflt (refine' append_X ?F ?N ?m ?z ?_; (case F => k_asm); (case N => k_asm); (case m => k_mem); (case z => omega)); intro h' F' N'))
local macro_rules | `(tactic| walk_at "call builtin:list.clear") => `(tactic| (k_here; k_dflt (refine' clear_X ?F ?N ?m ?z ?_; (case F => k_asm); (case N => k_asm); (case m => k_mem); (case z => omega)); intro h' k' F' N'))
local macro_rules | `(tactic| walk_at "call type:tuple") => `(tactic| (k_here; (with_reducible show wpAny _ _ (call (Value.type "tuple") [Value.ref _]) _ _ _); k_dflt (refine' tuple_X ?F ?N ?m ?z ?_; (case F => k_asm); (case N => k_asm); (case m => k_mem); (case z => omega)); intro D' h' F' N' l1))
local macro_rules | `(tactic| walk_at "call type:list") => `(tactic| (k_here; (with_reducible show wpAny _ _ (call (Value.type "list") [Value.ref _]) _ _ _); k_dflt (refine' listT_X ?F ?N ?m ?z ?_; (case F => k_asm); (case N => k_asm); (case m => k_mem); (case z => omega)); intro D' c' h' F' N' l1))
local macro_rules | `(tactic| walk_at "subscriptTail") => `(tactic| (k_here; (with_reducible show wpAny _ _ (subscriptTail _ _ (Value.ref _) (Value.int _ _)) _ _ _); k_dflt (refine kda_item (knd := PySem.intKind _ _) (by k_asm) (by k_mem) (by assumption) (intKind_is _ _ _ _) (by assumption) ?_)))
local macro_rules | `(tactic| walk_at "getItem ref int") => `(tactic| (k_here; k_dflt (refine kda_getItem (by k_asm) (by k_mem) (by assumption) (by assumption) ?_)))
local macro_rules | `(tactic| walk_at "setAttr ref") => `(tactic| (k_here; k_dflt (first
  | (refine' set_dict ?k1 ?k2 ?k3 ?k4 ?k5 ?k6 ?k7 ?k8 ?k9 ?k10 ?k11 ?k12 ?k13 ?_; (case k1 => k_asm); (case k2 => k_asm); (case k3 => k_asm); (case k4 => k_inst); (case k5 => exact rfl); (case k6 => k_is); (case k7 => k_is); (case k8 => k_is); (case k9 => k_is); (case k10 => k_get); (case k11 => k_put); (case k12 => k_upd); (case k13 => exact Nat.le_of_ble_eq_true rfl); k_whole; intro h' F' N'; (try k_sweep))
  | (refine' set_slot ?k1 ?k2 ?k3 ?k4 ?k5 ?k6 ?k7 ?k8 ?k9 ?k10 ?k11 ?k12 ?k13 ?_; (case k1 => k_asm); (case k2 => k_asm); (case k3 => k_asm); (case k4 => k_inst); (case k5 => k_is); (case k6 => k_is); (case k7 => k_is); (case k8 => k_is); (case k9 => k_is); (case k10 => decide); (case k11 => k_slotset); (case k12 => exact rfl); (case k13 => k_upd); k_whole; intro h' F' N'; (try k_sweep))
  | (refine' set_dict ?k1 ?k2 (focus ?k3 ?km) ?k4 ?k5 ?k6 ?k7 ?k8 ?k9 ?k10 ?k11 (Upd.head off_ne) ?k13 ?_; (case k1 => k_asm); (case k2 => k_asm); (case k3 => k_asm); (case k4 => k_inst); (case k5 => exact rfl); (case k6 => k_is); (case k7 => k_is); (case k8 => k_is); (case k9 => k_is); (case k10 => k_get); (case km => k_mem); (case k11 => k_put); (case k13 => exact Nat.le_of_ble_eq_true rfl); k_whole; intro h' F' N')
  | (refine' set_slot ?k1 ?k2 (focus ?k3 ?km) ?k4 ?k5 ?k6 ?k7 ?k8 ?k9 ?k10 ?k11 ?k12 (Upd.head off_ne) ?_; (case k1 => k_asm); (case k2 => k_asm); (case k3 => k_asm); (case k4 => k_inst); (case k5 => k_is); (case k6 => k_is); (case k7 => k_is); (case k8 => k_is); (case k9 => k_is); (case km => k_mem); (case k10 => decide); (case k11 => k_slotset); (case k12 => exact rfl); k_whole; intro h' F' N'))))
local macro_rules | `(tactic| walk_at "exec For Name Name cons nil") => `(tactic| (k_here; (rename Fr _ _ _ _ => lF'); (with_unfolding_all refine' For_invVF lF' ?k1 ?k2 ?_; (case k1 => exact rfl); (case k2 => exact rfl); k_whole)))
local macro_rules | `(tactic| walk_at "exec For Name Attribute cons nil") => `(tactic| (k_here; (rename Fr _ _ _ _ => lF'); (with_unfolding_all refine' For_invVF lF' ?k1 ?k2 ?_; (case k1 => exact rfl); (case k2 => exact rfl); k_whole)))
local macro_rules | `(tactic| walk_at "exec For Name Subscript cons nil") => `(tactic| (k_here; (rename Fr _ _ _ _ => lF'); (with_unfolding_all refine' For_invVF lF' ?k1 ?k2 ?_; (case k1 => exact rfl); (case k2 => exact rfl); k_whole)))
local macro_rules | `(tactic| walk_at "pyIter ref") => `(tactic| ((with_reducible show wpAny _ _ (pyIter (Value.ref _)) (fun it s₂ => LoopAtV _ _ _ _ _ _ _ _ _ it s₂) _ _); refine Stop.out ?_))
local macro_rules | `(tactic| walk_at "getMethod ref") => `(tactic| (k_here; (with_reducible show wpAny _ _ (getMethod (Value.ref _) (Str.ofString "values") _) _ _ _); k_dflt (refine kob_method (knd := PySem.intKind _ _) PySem.F.slot_dict_values PySem.F.type_dict_values (by k_asm) (by k_mem) (by assumption) ?_)))
local macro_rules | `(tactic| walk_at "call builtin:dict.values") => `(tactic| (k_here; k_dflt (refine' values_X ?F ?N ?m ?d ?l ?_; (case F => k_asm); (case N => k_asm); (case m => k_mem); (case d => assumption); (case l => assumption)); intro V' h' F' N' l1))
local macro_rules | `(tactic| walk_at "enterC") => `(tactic| k_dflt (refine' code_defC ?k1 ?k2 ?k3 ?k4 ?k5 ?kA ?kF ?kK ?k6 ?k7 ?k8 ?k9 ?kB ?kD ?_ ?c2 ?c3 ?c4; (case kA => exact rfl); (case kF => exact rfl); (case kK => assumption); (case k1 => k_asm); (case k2 => k_asm); (case k3 => k_asm); (case k4 => k_asm); (case k5 => k_asm); (case k6 => k_is); (case k7 => k_is); (case k8 => ktr_room); (case k9 => exact BindsTo.of_eq rfl); (case kB => exact rfl); (case kD => decide +kernel); (case c2 => exact rfl); (case c3 => exact rfl); (case c4 => exact rfl); k_whole; intro g' L' h' tk' cells' FG' F' N' Y' B' X' T' l1; k_cells Y'; (try simp only [List.cons_append, List.nil_append] at N'); (try dsimp only); (try k_fold)))
local macro_rules | `(tactic| walk_at "call builtin:sum") => `(tactic| (k_here; (with_reducible show wpAny _ _ (call (Value.builtin "sum") [Value.ref _]) _ _ _); k_dflt (refine' sum_X ?h ?F ?N ?m ?i ?_; (case h => exact rfl); (case F => k_asm); (case N => k_asm); (case m => k_mem); (case i => assumption)); intro h' tk' t' F' N'))
local macro_rules | `(tactic| walk_at "storeName") => `(tactic| (k_here; k_dflt (refine' storeX_C ?F (focus ?N ?m) ?c (UpdF.head off_ne) ?d ?_ ?a ?b; (case a => exact rfl); (case b => exact rfl); (case F => k_asm); (case N => k_asm); (case c => exact rfl); (case m => k_mem); (case d => assumption)); intro h' o' F' N' d'))
local macro_rules | `(tactic| walk_at "subI") => `(tactic| (k_here; (with_reducible show wpAny _ _ (subscriptTail _ _ (Value.ref _) (Value.int _ _)) _ _ _); k_dflt (refine' sub_ints ?N ?m ?i ?l ?z ?_; (case N => k_asm); (case m => k_mem); (case i => assumption); (case l => first | assumption | omega); (case z => decide)); intro t'))
local macro_rules | `(tactic| walk_at "subR") => `(tactic| (k_here; (with_reducible show wpAny _ _ (subscriptTail _ _ (Value.ref _) (Value.int _ _)) _ _ _); k_dflt (refine' item_X ?N ?m ?a ?b ?x ?_; (case N => k_asm); (case m => k_mem); (case a => omega); (case b => omega); (case x => assumption))))
section
theorem get_nodeinfo_spec {w : World} {X : List (Addr × Obj)} {g : Sg} {np : Int → Int} {su : Int → List Int} {rv : Value} {p f : Int} (S : Srt w X g np su rv p f) {v : Int} {t : Tok} (hv0 : 0 ≤ v) (hv6 : v < 6) :
    Spec 1 w 87 [.ref g.sx, .int v t] X (fun r X' => ∃ g', r = .ref (g'.ia v) ∧ v ∈ g'.ks ∧ Srt w X' g' np su rv p f ∧ Grow X X' g g') := by
  unfold Spec
  k_fill
  intro loose mean mg mb dp un gd cn cs a ccd cl outer A₀ base h₀ L m s Q E B F KX N T hk hdp hun hret
  have S' := S
  have hlen : (g.ks.map fun k => (k, Value.ref (g.ia k))).length ≤ sizeLine := by have := S.len; rw [List.length_map, sizeLine_eq]; omega
  obtain ⟨inst, ⟨t1, t2, t3, t4, tp, tf, attr⟩, ⟨o, dict, hD⟩, info, idic, succ, nd, rng, lo, ap, out⟩ := S'
  refine wpAny_call ?_
  by_cases hin : v ∈ g.ks
  · have hva := valueAt_in (ia := g.ia) hin
    k_dflt ktr_enter
    k_steps
    exact hret _ _ _ _ (by assumption) (by assumption) ⟨g, rfl, hin, S, .refl⟩
  · have hva := valueAt_out (ia := g.ia) hin
    k_dflt ktr_enter
    k_steps
    rename (∀ q ∈ X, q.1 < _) => lX
    rename (_ ∧ _ ∧ AllLt _ _) => l3
    rename @LT.lt Nat _ _ _ => l2
    rename Obj.IsDictOf _ _ (stored _ _ _) => hD9
    have hn : g.n2 < _ := lX _ dict
    have n1 := Nat.ne_of_gt hn
    have n2 := Nat.ne_of_gt (Nat.lt_trans hn l2)
    have n3 := Nat.ne_of_gt (Nat.lt_trans hn (Nat.lt_trans l2 l3.1))
    exact hret _ _ _ _ (by assumption) (by assumption) ⟨g.add v _ _ _, congrArg Value.ref (up_self g.ia v _).symm, List.mem_append_right _ (.head _),
      S.add hin hv0 hv6 lX l2 l3.1 (.head _) hD9 (.tail _ (mem_off (.tail _ (.head _)) n2)) (.tail _ (mem_off (.tail _ (.tail _ (.head _))) n1)) (.tail _ (mem_off (.head _) n3)) (fun q h hq => .tail _ (mem_off (.tail _ (.tail _ (.tail _ h))) hq)),
      .add hin lX l2 l3.1 (.head _) fun q h hq => .tail _ (mem_off (.tail _ (.tail _ (.tail _ h))) hq)⟩
end
section
/-- a contract of a def, told of its code: for a call through a bound method -/
def SpecC (lv : Nat) (w : World) (f : Addr) (vs : List Value) (X : List (Addr × Obj)) (Post : Value → List (Addr × Obj) → Prop) : Prop :=
  ∀ (loose : List Str) (mean : ExcName → Option Value) (mg mb : Str → Option Value) (dp un : Nat) (gd : Option (List Code)) (cn : Str) (cs : Scope) (a : Addr) (ccd : Value) (cl : List (Str × Addr)) (outer : List Env) (A₀ : Around) (base h₀ : Heap) (L : Addr) (m : Str → Option Value) (s : Shared)
    (Q E : Value → Shared → Prop),
    Below A₀ base outer h₀ → Fr h₀ L s.heap m → (topF.heap_1 w.params).In h₀ → News h₀ L s.heap X → Top vw loose mean mg mb h₀ → cs.kind = .function → dp + 10 * lv < 400 → un + 50 * lv < 4000 →
    (∀ r X' h' tk', Fr h₀ L h' m → News h₀ L h' X' → Post r X' → Q r { s with heap := h', toks := tk' }) →
    codeAny (model PySem.Challenge.rw_mq0314_01.row.prog w) (ktrTop dp un gd cn cs L a ccd cl outer) (.call (.ref f) ⟨vs, []⟩) (fun r s' => match r with | .ok (.ret v) => Q v s' | .ok _ => False | .error e => E e s') s
theorem SpecC.use {lv : Nat} {w : World} {f : Addr} {X : List (Addr × Obj)} {Post : Value → List (Addr × Obj) → Prop} {loose : List Str} {mean : ExcName → Option Value} {mg mb : Str → Option Value} {dp un : Nat} {gd : Option (List Code)} {cn : Str} {cs : Scope} {a : Addr} {ccd : Value} {cl : List (Str × Addr)} {outer : List Env} {A₀ : Around} {base h₀ : Heap} {L q : Addr} {m : Str → Option Value} {s : Shared} {self : Value} {pos : List Value}
    {Q E : Value → Shared → Prop} (C : SpecC lv w f (self :: pos) X Post) (hq : (q, methodObj (.ref f) self) ∈ X) (B : Below A₀ base outer h₀) (F : Fr h₀ L s.heap m) (KX : (topF.heap_1 w.params).In h₀) (N : News h₀ L s.heap X) (T : Top vw loose mean mg mb h₀) (hk : cs.kind = .function) (hdp : dp + 10 * lv < 400) (hun : un + 50 * lv < 4000)
    (ret : ∀ r X' h' tk', Fr h₀ L h' m → News h₀ L h' X' → Post r X' → Q r { s with heap := h', toks := tk' }) :
    wpAny (model PySem.Challenge.rw_mq0314_01.row.prog w) (ktrTop dp un gd cn cs L a ccd cl outer) (call (.ref q) pos) Q E s :=
  call_meth N hq (C _ _ _ _ _ _ _ _ _ _ _ _ _ _ _ _ _ _ _ _ _ B F KX N T hk hdp hun ret)
theorem add_spec {w : World} {X : List (Addr × Obj)} {g : Sg} {np : Int → Int} {su : Int → List Int} {p f : Int} (S : Srt w X g np su .none p f) {v : Int} {t : Tok} (hv0 : 0 ≤ v) (hv6 : v < 6) {ps : List Value} {ns : List Int} (hps : IntsAre ps ns) (hns : ∀ u ∈ ns, 0 ≤ u ∧ u < 6) (hlen : ns.length ≤ 10) (hsl : ∀ u, (su u).length ≤ 1000) :
    SpecC 2 w 94 (.ref g.sx :: .int v t :: ps) X (fun r X' => r = .none ∧ ∃ g', v ∈ g'.ks ∧ (∀ u ∈ ns, u ∈ g'.ks) ∧ Srt w X' g' (up np v (np v + ns.length)) (fun u => su u ++ List.replicate (ns.count u) v) .none p f ∧ Grow X X' g g') := by
  unfold SpecC
  k_fill
  intro loose mean mg mb dp un gd cn cs a ccd cl outer A₀ base h₀ L m s Q E B F KX N T hk hdp hun hret
  have S' := S
  have hpl := hps.length
  obtain ⟨inst, ⟨t1, t2, t3, t4, tp, tf, attr⟩, ⟨o, dict, hD⟩, info, idic, succ, nd, rng, lo, ap, out⟩ := S'
  k_dflt (refine' code_star ?k1 ?k2 ?k3 ?k4 ?k5 ?kA ?kF ?kK ?k6 ?k7 ?k8 ?k9 ?kz ?kB ?_ ?c2 ?c3 ?c4 ?c5; (case kA => exact rfl); (case kF => exact rfl); (case kK => assumption); (case k1 => k_asm); (case k2 => k_asm); (case k3 => k_asm); (case k4 => k_asm); (case k5 => k_asm); (case k6 => k_is); (case k7 => k_is); (case k8 => k_room); (case k9 => exact bind_star2); (case kz => (rw [sizeLine_eq]; have := hps.length; omega)); (case kB => exact fun D => locs rfl); (case c2 => exact rfl); (case c3 => exact rfl); (case c4 => exact rfl); (case c5 => decide))
  intro D g' L' h' lD FG' F' N' B' X' T'
  (try dsimp only)
  (try k_fold)
  k_steps
  have C := get_nodeinfo_spec (t := t) (S.still (X' := (D, tupO ps 0) :: X) fun q h _ => .tail _ h) hv0 hv6
  refine Stop.in ?_; k_dflt (refine' Spec.use ?Cx1 ?Bx1 ?Fx1 ?Kx1 ?Nx1 ?Tx1 ?hkx1 ?dx1 ?ux1 ?_; (case Cx1 => assumption); (case Bx1 => k_asm); (case Fx1 => k_asm); (case Kx1 => k_asm); (case Nx1 => k_asm); (case Tx1 => k_asm); (case hkx1 => first | exact rfl | assumption); (case dx1 => first | omega | ((try simp only [depth_under_make, depth_under_kw, depth_in1, depth_deeper, depth_caller]); (try dsimp only [ktrTop]); omega)); (case ux1 => first | omega | ((try simp only [units_in1, units_deeper, Around.mark_units, units_caller]); (try dsimp only [ktrTop]); omega)))
  rintro r X1 h1 tk1 F1 N1 ⟨g1, rfl, hv1, S1, G1⟩
  have hD1 : ¬ At g D := fun q => absurd (At.lt S lD q) (Nat.lt_irrefl _)
  have hT1 : (D, tupO ps 0) ∈ X1 := G1.fr _ (.head _) hD1
  obtain ⟨u1, u2, hI1⟩ := S1.info v hv1
  have hJ1 := S1.idic v hv1
  have N1' := focus N1 hI1
  clear N1
  have hJ2 : (g1.ja v, dictOf [] 0) ∈ off (g1.ia v) X1 := mem_off hJ1 (S1.ap.ij v hv1 v hv1).symm
  have hT2 : (D, tupO ps 0) ∈ off (g1.ia v) X1 := mem_off hT1 fun e => G1.notAt (q := (D, tupO ps 0)) (.head _) hD1 (by rw [show D = g1.ia v from e]; exact .ia hv1)
  (try dsimp only)
  k_steps
  rename News _ _ _ _ => N9
  obtain ⟨X2, N2, S2, G2, hT3⟩ : ∃ X2, News g' L' _ X2 ∧ Srt w X2 g1 (up np v (np v + ↑ps.length)) su .none p f ∧ Grow ((D, tupO ps 0) :: X) X2 g g1 ∧ (D, tupO ps 0) ∈ X2 :=
    ⟨_, N9, S1.setNp hv1 (.head _) fun q h n => .tail _ (mem_off h n), G1.trans (Grow.put (.ia hv1)), .tail _ hT2⟩
  refine Stop.in ?_
  k_dflt (refine' iter_tupl ["pred_info"] (fun i Xi => ∃ gi, Srt w Xi gi (up np v (np v + ps.length)) (fun u => su u ++ List.replicate ((ns.take i).count u) v) .none p f ∧ v ∈ gi.ks ∧ (∀ u ∈ ns.take i, u ∈ gi.ks) ∧ Grow ((D, tupO ps 0) :: X) Xi g gi) rfl ?F ?N ?m ?j ?t ?e; (case F => k_asm); (case N => k_asm); (case m => k_mem))
  case j => exact ⟨g1, by simpa using S2, hv1, by simp, G2⟩
  case e =>
    rintro um X3 h3 tk3 ⟨g3, S3, hv3, hu3, G3⟩ hT3 F3 N3
    (try dsimp only)
    k_steps
    rw [hpl, List.take_length] at S3 hu3
    exact hret _ _ _ _ (by assumption) (by assumption) ⟨rfl, g3, hv3, hu3, S3, (Grow.sub (X := X) (X' := (D, tupO ps 0) :: X) (g := g) fun q h => .tail _ h).trans G3⟩
  case t =>
    rintro i vv um X3 h3 tk3 I io lI hvv ⟨g3, S3, hv3, hu3, G3⟩ hI3 hT3 F3 N3
    rename IntsAre ps ns => hps
    obtain ⟨u, tu, rfl, hu⟩ := IntsAre.at hps i vv hvv
    have hu6 := hns u (List.mem_of_getElem? hu)
    have inst3 : (g.sx, instObj 144 g3.dx) ∈ X3 := G3.sx ▸ S3.inst
    obtain ⟨t1', t2', t3', t4', tp', tf', attr3⟩ := S3.attr
    (try dsimp only)
    k_steps
    have C3 := get_nodeinfo_spec (t := tu) (S3.still (X' := (I, io) :: X3) fun q h _ => .tail _ h) hu6.1 hu6.2
    rw [G3.sx] at C3
    refine Stop.in ?_; k_dflt (refine' Spec.use ?Cx2 ?Bx2 ?Fx2 ?Kx2 ?Nx2 ?Tx2 ?hkx2 ?dx2 ?ux2 ?_; (case Cx2 => assumption); (case Bx2 => k_asm); (case Fx2 => k_asm); (case Kx2 => k_asm); (case Nx2 => k_asm); (case Tx2 => k_asm); (case hkx2 => first | exact rfl | assumption); (case dx2 => first | omega | ((try simp only [depth_under_make, depth_under_kw, depth_in1, depth_deeper, depth_caller]); (try dsimp only [ktrTop]); omega)); (case ux2 => first | omega | ((try simp only [units_in1, units_deeper, Around.mark_units, units_caller]); (try dsimp only [ktrTop]); omega)))
    rintro r X4 h4 tk4 F4 N4 ⟨g4, rfl, hu4, S4, G4⟩
    have hI4 : ¬ At g3 I := At.off S3 hI3
    obtain ⟨u1', u2', hInf⟩ := S4.info u hu4
    have hJ4 := S4.idic u hu4
    obtain ⟨vs4, n4, hL4, hIL4⟩ := S4.succ u hu4
    have N4' := focus N4 hL4
    clear N4
    have hInf' := mem_off (d := g4.la u) hInf (S4.ap.il u hu4 u hu4)
    have hJ4' := mem_off (d := g4.la u) hJ4 (S4.ap.jl u hu4 u hu4)
    have hz4 : vs4.toArray.size ≤ sizeLine := by
      have h1 := hIL4.length
      have h2 := hsl u
      have h3 : (ns.take i).count u ≤ (ns.take i).length := List.count_le_length
      simp only [List.length_append, List.length_replicate, List.length_take] at h1 h3
      rw [List.size_toArray, sizeLine_eq]; omega
    (try dsimp only)
    k_steps
    rename News _ _ _ _ => N9
    rw [List.push_toArray] at N9
    have hI5 : ¬ At g4 I := G4.notAt (q := (I, io)) (.head _) hI4
    have hD5 : ¬ At g4 D := G4.notAt (q := (D, tupO ps 0)) (.tail _ hT3) (G3.notAt (q := (D, tupO ps 0)) (.head _) hD1)
    have S5 := S4.setSu hu4 (X' := (g4.la u, listO (vs4 ++ [.int v t]) (n4 + 1)) :: off (g4.la u) X4) (.head _) (IntsAre.append hIL4 (.cons v t .nil)) fun q h n => .tail _ (mem_off h n)
    have eS : up (fun u => su u ++ List.replicate ((ns.take i).count u) v) u (su u ++ List.replicate ((ns.take i).count u) v ++ [v]) = fun u => su u ++ List.replicate ((ns.take (i + 1)).count u) v := by
      funext y
      rw [List.take_add_one, hu]
      by_cases e : y = u
      · subst e
        rw [up_self, List.count_append]
        simp [List.replicate_succ', List.append_assoc]
      · rw [up_ne _ _ e, List.count_append]
        have : List.count y (some u).toList = 0 := List.count_eq_zero.mpr (by simpa using e)
        rw [this]; rfl
    rw [eS] at S5
    refine MyTurn.next (by assumption) N9 (.tail _ (mem_off (G4.fr (I, io) (.head _) hI4) fun e => hI5 (by rw [show I = g4.la u from e]; exact .la hu4))) ?_ ⟨Ag.step rfl Ag.base, g4, S5.offI hI5, ?_, ?_, ?_⟩
    · intro q hq
      rw [List.mem_singleton.mp hq]
      exact .tail _ (mem_off (G4.fr (D, tupO ps 0) (.tail _ hT3) (G3.notAt (q := (D, tupO ps 0)) (.head _) hD1)) fun e => hD5 (by rw [show D = g4.la u from e]; exact .la hu4))
    · exact G4.ks _ hv3
    · intro y hy
      rw [List.take_add_one, hu] at hy
      rcases List.mem_append.mp hy with h | h
      · exact G4.ks _ (hu3 y h)
      · have : y = u := by simpa using h
        rw [this]; exact hu4
    · refine Grow.offI (G3.trans ((Grow.sub (X' := (I, io) :: X3) fun q h => .tail _ h).trans (G4.trans (Grow.put (.la hu4))))) fun q hq => ?_
      rcases List.mem_cons.mp hq with rfl | hq
      · exact fun e => hI3 _ hT3 e
      · obtain ⟨o', ho'⟩ := G2.mono q (.tail _ hq)
        exact Nat.ne_of_lt (lI (q.1, o') ho')
end
section
theorem is_active_spec {w : World} {X : List (Addr × Obj)} {g : Sg} {np : Int → Int} {su : Int → List Int} {rl : Addr} {p f : Int} (S : Srt w X g np su (.ref rl) p f) {vs : List Value} {n : Nat} (hr : (rl, listO vs n) ∈ X) (hz : vs.length ≤ 1000) :
    Spec 1 w 113 [.ref g.sx] X (fun r X' => X' = X ∧ r = .bool (decide (f < p) || decide (vs ≠ []))) := by
  unfold Spec
  k_fill
  intro loose mean mg mb dp un gd cn cs a ccd cl outer A₀ base h₀ L m s Q E B F KX N T hk hdp hun hret
  have S' := S
  obtain ⟨inst, ⟨t1, t2, t3, t4, tp, tf, attr⟩, ⟨o, dict, hD⟩, info, idic, succ, nd, rng, lo, ap, out⟩ := S'
  refine wpAny_call ?_
  k_dflt ktr_enter
  k_steps
  · exact hret _ _ _ _ (by assumption) (by assumption) ⟨rfl, by rename f < p => hc; rw [decide_eq_true hc]; rfl⟩
  · exact hret _ _ _ _ (by assumption) (by assumption) ⟨rfl, by rename ¬ f < p => hc; rw [decide_eq_false hc]; rfl⟩

theorem get_ready_spec {w : World} {X : List (Addr × Obj)} {g : Sg} {np : Int → Int} {su : Int → List Int} {rl : Addr} {p f : Int} (S : Srt w X g np su (.ref rl) p f) {vs : List Value} {rs : List Int} {n : Nat} (hr : (rl, listO vs n) ∈ X) (hI : IntsAre vs rs) (hin : ∀ k ∈ rs, k ∈ g.ks) (hz : vs.length ≤ 1000) (ha : ¬ At g rl) :
    Spec 1 w 106 [.ref g.sx] X (fun r X' => ∃ D k, r = .ref D ∧ (D, tupO vs 0) ∈ X' ∧ (rl, listO [] k) ∈ X' ∧ Srt w X' g (fun j => if j ∈ rs then -1 else np j) su (.ref rl) (p + rs.length) f ∧ (∀ q ∈ X, ¬ At g q.1 → q.1 ≠ rl → q ∈ X') ∧ ∀ q ∈ X, q.1 < D) := by
  unfold Spec
  k_fill
  intro loose mean mg mb dp un gd cn cs a ccd cl outer A₀ base h₀ L m s Q E B F KX N T hk hdp hun hret
  have S' := S
  have hlen := hI.length
  obtain ⟨inst, ⟨t1, t2, t3, t4, tp, tf, attr⟩, ⟨o, dict, hD⟩, info, idic, succ, nd, rng, lo, ap, out⟩ := S'
  refine wpAny_call ?_
  k_dflt ktr_enter
  k_steps
  rename (∀ q ∈ X, q.1 < _) => lD
  refine Stop.in ?_
  k_dflt (refine' iter_tupl [] (fun i Xi => Srt w Xi g (fun j => if j ∈ rs.take i then -1 else np j) su (.ref rl) p f ∧ ∀ q ∈ X, ¬ At g q.1 → q ∈ Xi) rfl ?F ?N ?m ?j ?t ?e; (case F => k_asm); (case N => k_asm); (case m => k_mem))
  case j => exact ⟨by simpa using S.still fun q h _ => .tail _ h, fun q h _ => .tail _ h⟩
  case e =>
    rintro um X3 h3 tk3 ⟨S3, fr3⟩ hT3 F3 N3
    rw [hlen, List.take_length] at S3
    have hr3 := fr3 _ hr ha
    have inst3 := S3.inst
    obtain ⟨t1, t2, t3, t4, tp, tf, attr3⟩ := S3.attr
    have n1 : g.sx ≠ rl := fun e => ha (e ▸ .sx)
    have n2 : g.dx ≠ rl := fun e => ha (e ▸ .dx)
    have n3 := Nat.ne_of_gt (lD _ hr)
    (try dsimp only)
    k_steps
    rename News _ _ _ _ => N9
    refine hret _ _ _ _ (by assumption) N9 ⟨_, _, rfl, .tail _ (mem_off (.tail _ (mem_off hT3 n3)) ?_), .tail _ (mem_off (.head _) n2.symm), ?_, ?_, lD⟩
    · exact fun e => absurd (At.lt S lD .dx) (by rw [show g.dx = _ from e.symm]; exact Nat.lt_irrefl _)
    · rw [← hlen]
      refine Srt.setAttr (S3.still (X' := (rl, listO [] _) :: off rl X3) fun q h a => .tail _ (mem_off h fun e => ha (e ▸ a))) (.head _) fun q h n => .tail _ (mem_off h n)
    · exact fun q h a e => .tail _ (mem_off (.tail _ (mem_off (fr3 q h a) e)) fun e' => a (e' ▸ .dx))
  case t =>
    rintro i vv um X3 h3 tk3 I io lI hvv ⟨S3, fr3⟩ hI3 hT3 F3 N3
    rename IntsAre vs rs => hI
    obtain ⟨u, tu, rfl, hu⟩ := IntsAre.at hI i vv hvv
    have hu6 := hin u (List.mem_of_getElem? hu)
    have hva := valueAt_in (ia := g.ia) hu6
    obtain ⟨o3, dict3, hD3⟩ := S3.dict
    obtain ⟨u1, u2, hInf⟩ := S3.info u hu6
    have hJ := S3.idic u hu6
    (try dsimp only)
    k_steps
    rename News _ _ _ _ => N9
    have hI5 : ¬ At g I := At.off S3 hI3
    have S4 := S3.still (X' := (I, io) :: X3) fun q h _ => .tail _ h
    have eS : up (fun j => if j ∈ rs.take i then -1 else np j) u (-1) = fun j => if j ∈ rs.take (i + 1) then -1 else np j := by
      funext j
      rw [List.take_add_one, hu]
      by_cases e : j = u
      · subst e; rw [up_self]; simp
      · rw [up_ne _ _ e]; simp [e]
    refine MyTurn.next (by assumption) N9 (.tail _ (mem_off (.head _) fun e => hI5 (by rw [show I = g.ia u from e]; exact .ia hu6))) ?_ ⟨Ag.base, ?_, ?_⟩
    · intro q hq
      rw [List.mem_singleton.mp hq]
      exact .tail _ (mem_off (.tail _ hT3) fun e => absurd (At.lt S lD (.ia hu6)) (by rw [show g.ia u = _ from e.symm]; exact Nat.lt_irrefl _))
    · rw [← eS]
      exact Srt.offI (S4.setNp hu6 (.head _) fun q h n => .tail _ (mem_off h n)) hI5
    · intro q h a
      exact mem_off (.tail _ (mem_off (.tail _ (fr3 q h a)) fun e => a (by rw [show q.1 = g.ia u from e]; exact .ia hu6))) (hI3 q (fr3 q h a))
end
section
def dstep (a : (Int → Int) × List Int) (u : Int) : (Int → Int) × List Int := (up a.1 u (a.1 u - 1), if a.1 u - 1 = 0 then a.2 ++ [u] else a.2)
theorem dstep_snd (a : (Int → Int) × List Int) (u : Int) : (dstep a u).2 = if a.1 u - 1 = 0 then a.2 ++ [u] else a.2 := rfl
theorem dstep_len (l : List Int) : ∀ a : (Int → Int) × List Int, (l.foldl dstep a).2.length ≤ a.2.length + l.length := by
  induction l with
  | nil => intro a; exact Nat.le_refl _
  | cons u r ih =>
    intro a
    have := ih (dstep a u)
    have h2 : (dstep a u).2.length ≤ a.2.length + 1 := by
      unfold dstep; dsimp only; split
      · simp
      · omega
    simp only [List.foldl_cons, List.length_cons]; omega
theorem done_spec {w : World} {X : List (Addr × Obj)} {g : Sg} {np : Int → Int} {su : Int → List Int} {rl : Addr} {p f : Int} (S : Srt w X g np su (.ref rl) p f) {vs : List Value} {rs : List Int} {n : Nat} (hr : (rl, listO vs n) ∈ X) (hI : IntsAre vs rs) (hz : vs.length ≤ 1000) (ha : ¬ At g rl)
    {v : Int} {t : Tok} (hv : v ∈ g.ks) (hnp : np v = -1) (hsu : ∀ u ∈ su v, u ∈ g.ks) (hsl : (su v).length ≤ 1000) :
    Spec 1 w 127 [.ref g.sx, .int v t] X (fun r X' => r = .none ∧ ∃ a, a = (su v).foldl dstep (up np v (-2), rs) ∧ Srt w X' g a.1 su (.ref rl) p (f + 1) ∧ (∃ vs' n', (rl, listO vs' n') ∈ X' ∧ IntsAre vs' a.2) ∧ ∀ q ∈ X, ¬ At g q.1 → q.1 ≠ rl → q ∈ X') := by
  unfold Spec
  k_fill
  intro loose mean mg mb dp un gd cn cs a ccd cl outer A₀ base h₀ L m s Q E B F KX N T hk hdp hun hret
  have S' := S
  have hlen := hI.length
  obtain ⟨inst, ⟨t1, t2, t3, t4, tp, tf, attr⟩, ⟨o, dict, hD⟩, info, idic, succ, nd, rng, lo, ap, out⟩ := S'
  refine wpAny_call ?_
  k_dflt (refine' code_star ?k1 ?k2 ?k3 ?k4 ?k5 ?kA ?kF ?kK ?k6 ?k7 ?k8 ?k9 ?kz ?kB ?_ ?c2 ?c3 ?c4 ?c5; (case kA => exact rfl); (case kF => exact rfl); (case kK => assumption); (case k1 => k_asm); (case k2 => k_asm); (case k3 => k_asm); (case k4 => k_asm); (case k5 => k_asm); (case k6 => k_is); (case k7 => k_is); (case k8 => k_room); (case k9 => exact bind_star1); (case kz => (rw [sizeLine_eq]; exact Nat.le_of_ble_eq_true rfl)); (case kB => exact fun D => locs rfl); (case c2 => exact rfl); (case c3 => exact rfl); (case c4 => exact rfl); (case c5 => decide))
  intro D g' L' h' lD FG' F' N' B' X' T'
  (try dsimp only)
  (try k_fold)
  k_steps
  refine Stop.in ?_
  have hD1 : ¬ At g D := fun q => absurd (At.lt S lD q) (Nat.lt_irrefl _)
  have hDr : D ≠ rl := Nat.ne_of_gt (lD _ hr)
  k_dflt (refine' iter_tupl ["nodeinfo", "stat", "successor", "successor_info"] (fun i Xi => if i = 0 then (∀ q ∈ X, q ∈ Xi) else
    Srt w Xi g ((su v).foldl dstep (up np v (-2), rs)).1 su (.ref rl) p (f + 1) ∧ (∃ vs' n', (rl, listO vs' n') ∈ Xi ∧ IntsAre vs' ((su v).foldl dstep (up np v (-2), rs)).2) ∧ ∀ q ∈ X, ¬ At g q.1 → q.1 ≠ rl → q ∈ Xi) rfl ?F ?N ?m ?j ?t ?e; (case F => k_asm); (case N => k_asm); (case m => k_mem))
  case j => simp only [if_true]; exact fun q h => .tail _ h
  case e =>
    intro um X3 h3 tk3 hJ hT3 F3 N3
    have hJ' := hJ
    simp only [List.length_cons, List.length_nil, Nat.zero_add, if_neg Nat.one_ne_zero] at hJ'
    (try dsimp only)
    k_steps
    exact hret _ _ _ _ (by assumption) (by assumption) ⟨rfl, _, rfl, hJ'⟩
  case t =>
    intro i vv um X3 h3 tk3 I io lI hvv hJ hI3 hT3 F3 N3
    have hi0 : i = 0 ∧ vv = .int v t := by
      cases i with
      | zero => exact ⟨rfl, by simpa using hvv.symm⟩
      | succ i => simp at hvv
    obtain ⟨rfl, rfl⟩ := hi0
    simp only [if_true] at hJ
    have S3 := S.still (X' := X3) fun q h _ => hJ q h
    have hva := valueAt_in (ia := g.ia) hv
    have dict3 := hJ _ dict
    have inst3 := hJ _ inst
    have attr3 := hJ _ attr
    obtain ⟨u1, u2, hInf⟩ := S3.info v hv
    rw [hnp] at hInf
    have hJ3 := S3.idic v hv
    obtain ⟨vs4, n4, hL4, hIL4⟩ := S3.succ v hv
    have ne1 := ap.ij v hv v hv
    have ne2 := ap.il v hv v hv
    have hIr : I ≠ rl := fun e => hI3 _ (hJ _ hr) e.symm
    have hIA : ¬ At g I := At.off S3 hI3
    (try dsimp only)
    k_steps
    rename News _ _ _ _ => N9
    obtain ⟨X4, N4, S4, hIO4, hT4, fr4⟩ : ∃ X4, News g' L' _ X4 ∧ Srt w X4 g (up np v (-2)) su (.ref rl) p f ∧ (I, io) ∈ X4 ∧ (D, tupO [.int v t] 0) ∈ X4 ∧ ∀ q ∈ X, ¬ At g q.1 → q ∈ X4 :=
      ⟨_, N9, Srt.setNp (S3.still (X' := (I, io) :: X3) fun q h _ => .tail _ h) hv (.head _) fun q h n => .tail _ (mem_off h n), .tail _ (mem_off (.head _) fun e => hIA (by rw [show I = g.ia v from e]; exact .ia hv)),
        .tail _ (mem_off (.tail _ hT3) fun e => hD1 (by rw [show D = g.ia v from e]; exact .ia hv)), fun q h a => .tail _ (mem_off (.tail _ (hJ q h)) fun e => a (by rw [show q.1 = g.ia v from e]; exact .ia hv))⟩
    clear N9
    obtain ⟨vs5, n5, hL5, hIL5⟩ := S4.succ v hv
    have hlen5 := hIL5.length
    refine Stop.in ?_
    k_dflt (refine' iter_lst ["successor_info"] (fun i Xi => Srt w Xi g (((su v).take i).foldl dstep (up np v (-2), rs)).1 su (.ref rl) p f ∧ (∃ vs' n', (rl, listO vs' n') ∈ Xi ∧ IntsAre vs' (((su v).take i).foldl dstep (up np v (-2), rs)).2) ∧ (I, io) ∈ Xi ∧ (D, tupO [.int v t] 0) ∈ Xi ∧ ∀ q ∈ X, ¬ At g q.1 → q.1 ≠ rl → q ∈ Xi) rfl ?F ?N ?m ?j ?t ?e; (case F => k_asm); (case N => k_asm); (case m => k_mem))
    case j => exact ⟨by simpa using S4, ⟨vs, n, fr4 _ hr ha, by simpa using hI⟩, hIO4, hT4, fun q h a _ => fr4 q h a⟩
    case e =>
      rintro um2 X5 h5 tk5 ⟨S5, ⟨vs', n', hr5, hI5⟩, hIO5, hT5, fr5⟩ hL6 F5 N5
      rw [hlen5, List.take_length] at S5 hI5
      have inst5 := S5.inst
      obtain ⟨t1, t2, t3, t4, tp, tf, attr5⟩ := S5.attr
      (try dsimp only)
      k_steps
      rename News _ _ _ _ => N9
      refine MyTurn.next (by assumption) N9 (.tail _ (mem_off hIO5 fun e => hIA (by rw [show I = g.dx from e]; exact .dx))) ?_ ⟨?_, ?_⟩
      · intro q hq
        rw [List.mem_singleton.mp hq]
        exact .tail _ (mem_off hT5 fun e => hD1 (by rw [show D = g.dx from e]; exact .dx))
      · intro y hy
        simp only [List.contains_cons, List.contains_nil, Bool.or_false, Bool.or_eq_false_iff, beq_eq_false_iff_ne] at hy
        simp [mapT, mapV, hy]
      · rw [if_neg (Nat.succ_ne_zero _)]
        refine ⟨Srt.offI (Srt.setAttr S5 (.head _) fun q h n => .tail _ (mem_off h n)) hIA, ⟨vs', n', mem_off (.tail _ (mem_off hr5 fun e => ha (by rw [show rl = g.dx from e]; exact .dx))) hIr.symm, hI5⟩, fun q h a e => mem_off (.tail _ (mem_off (fr5 q h a e) fun e' => a (by rw [show q.1 = g.dx from e']; exact .dx))) (hI3 q (hJ q h))⟩
    case t =>
      rintro i vv um2 X5 h5 tk5 I2 io2 lI2 hvv ⟨S5, ⟨vs', n', hr5, hI5⟩, hIO5, hT5, fr5⟩ hI25 hL6 F5 N5
      obtain ⟨u, tu, rfl, hu⟩ := IntsAre.at hIL5 i vv hvv
      have huk := hsu u (List.mem_of_getElem? hu)
      have hva2 := valueAt_in (ia := g.ia) huk
      obtain ⟨o5, dict5, hD5⟩ := S5.dict
      have inst5 := S5.inst
      obtain ⟨t1, t2, t3, t4, tp, tf, attr5⟩ := S5.attr
      obtain ⟨u1, u2, hInf5⟩ := S5.info u huk
      have hJ5 := S5.idic u huk
      have ne3 := ap.ij u huk u huk
      have ne4 := ap.si u huk
      have ne5 := ap.di u huk
      have ne6 : rl ≠ g.ia u := fun e => ha (e ▸ .ia huk)
      have hb5 : vs'.length ≤ 3000 := by
        have h1 := hI5.length
        have h2 := dstep_len ((su v).take i) (up np v (-2), rs)
        have h3 : ((su v).take i).length ≤ (su v).length := by rw [List.length_take]; exact Nat.min_le_right _ _
        simp only at h2; omega
      have eS : ((su v).take (i + 1)).foldl dstep (up np v (-2), rs) = dstep (((su v).take i).foldl dstep (up np v (-2), rs)) u := by
        rw [List.take_add_one, hu, List.foldl_append]; rfl
      have hI2A : ¬ At g I2 := At.off S5 hI25
      have S6 := S5.still (X' := (I2, io2) :: X5) fun q h _ => .tail _ h
      have nI2 : I2 ≠ g.ia u := fun e => hI2A (by rw [e]; exact .ia huk)
      have nI : I ≠ g.ia u := fun e => hIA (by rw [e]; exact .ia huk)
      have nD : D ≠ g.ia u := fun e => hD1 (by rw [e]; exact .ia huk)
      have nI2r : I2 ≠ rl := fun e => hI25 _ hr5 e.symm
      have nL : g.la v ≠ g.ia u := (ap.il u huk v hv).symm
      have nLr : g.la v ≠ rl := fun e => ha (e ▸ .la hv)
      (try dsimp only)
      k_steps
      · rename News _ _ _ _ => N9
        rename _ - (1 : Int) = 0 => hc
        refine MyTurn.next (by assumption) N9 (.tail _ (mem_off (.tail _ (mem_off (.head _) nI2)) nI2r)) ?_ ⟨Ag.step rfl Ag.base, ?_⟩
        · intro q hq
          rw [List.mem_singleton.mp hq]
          exact .tail _ (mem_off (.tail _ (mem_off (.tail _ hL6) nL)) nLr)
        · rw [eS]
          refine ⟨Srt.offI (Srt.still (Srt.setNp S6 huk (.head _) fun q h n => .tail _ (mem_off h n)) fun q h a' => .tail _ (mem_off h fun e => ha (e ▸ a'))) hI2A, ⟨_, _, mem_off (.head _) nI2r.symm, ?_⟩,
            mem_off (.tail _ (mem_off (.tail _ (mem_off (.tail _ hIO5) nI)) hIr)) (hI25 _ hIO5), mem_off (.tail _ (mem_off (.tail _ (mem_off (.tail _ hT5) nD)) hDr)) (hI25 _ hT5),
            fun q h a' e => mem_off (.tail _ (mem_off (.tail _ (mem_off (.tail _ (fr5 q h a' e)) fun e' => a' (by rw [show q.1 = g.ia u from e']; exact .ia huk))) e)) (hI25 _ (fr5 q h a' e))⟩
          rw [dstep_snd, if_pos hc]
          exact IntsAre.append hI5 (.cons u tu .nil)
      · rename News _ _ _ _ => N9
        rename ¬ _ - (1 : Int) = 0 => hc
        refine MyTurn.next (by assumption) N9 (.tail _ (mem_off (.head _) nI2)) ?_ ⟨Ag.step rfl Ag.base, ?_⟩
        · intro q hq
          rw [List.mem_singleton.mp hq]
          exact .tail _ (mem_off (.tail _ hL6) nL)
        · rw [eS]
          refine ⟨Srt.offI (Srt.setNp S6 huk (.head _) fun q h n => .tail _ (mem_off h n)) hI2A, ⟨vs', n', mem_off (.tail _ (mem_off (.tail _ hr5) ne6)) nI2r.symm, ?_⟩,
            mem_off (.tail _ (mem_off (.tail _ hIO5) nI)) (hI25 _ hIO5), mem_off (.tail _ (mem_off (.tail _ hT5) nD)) (hI25 _ hT5),
            fun q h a' e => mem_off (.tail _ (mem_off (.tail _ (fr5 q h a' e)) fun e' => a' (by rw [show q.1 = g.ia u from e']; exact .ia huk))) (hI25 _ (fr5 q h a' e))⟩
          rw [dstep_snd, if_neg hc]
          exact hI5
end
section
def offs (fr Y : List (Addr × Obj)) : List (Addr × Obj) := Y.filter fun p => !(fr.map (·.1)).contains p.1
theorem mem_offs {fr Y : List (Addr × Obj)} {q : Addr × Obj} (h : q ∈ Y) (hn : q.1 ∉ fr.map (·.1)) : q ∈ offs fr Y := by
  refine List.mem_filter.mpr ⟨h, ?_⟩
  simpa using hn
theorem of_offs {fr Y : List (Addr × Obj)} {q : Addr × Obj} (h : q ∈ offs fr Y) : q ∈ Y ∧ q.1 ∉ fr.map (·.1) := by
  obtain ⟨h1, h2⟩ := List.mem_filter.mp h
  exact ⟨h1, by simpa using h2⟩
theorem SameUp.map1 : ∀ {a b : List (Addr × Obj)}, TI.SameUp a b → b.map (·.1) = a.map (·.1)
  | [], [], _ => rfl
  | [], _ :: _, h => h.elim
  | _ :: _, [], h => h.elim
  | p :: ps, q :: qs, ⟨h1, _, h3⟩ => by rw [List.map_cons, List.map_cons, h1, SameUp.map1 h3]
section
variable {prog : Program} {w : World} {A₀ : Around} {E : Value → Shared → Prop} {s' : Shared} {h₀ h₁ : Heap} {L a e : Addr} {m : Str → Option Value} {name : Str} {scope : Scope} {cd : Value} {l : List Env} {fr' Y : List (Addr × Obj)}
  {b₀ : Stmt} {suite : List Stmt} {pos np : Pos} {rest : List ExceptHandler} {Q : Flow → Shared → Prop} {p : Program} {loose : List Str} {mean : ExcName → Option Value} {mg mb : Str → Option Value} {K : Frag}
theorem caught_stop (hfr : A₀.frames = some l) (Fs : TI.Frs l fr') (hx : Heap.NewExc h₁ s'.heap e "StopIteration") (F : Fr h₀ L h₁ m) (N : News h₀ L h₁ Y) (hin : ∀ q ∈ fr', q ∈ Y) (X₀ : K.In h₀) (T : Top p loose mean mg mb h₀)
    (ex : nsIn K mainGlobals "StopIteration" = some none)
    (k : ∀ h' fr2, TI.SameUp fr' fr2 → TI.Frs l fr2 → Fr h₀ L h' m → News h₀ L h' (offs fr' Y ++ fr2) → wpAny (model prog w) ((A₀.deeper (envOf name scope L a cd)).mark (some (.ref e))) (execs (b₀ :: suite) (envOf name scope L a cd)) Q E { s' with heap := h' })
    (hk : scope.kind = .function := by rfl) (hxk : (envOf name scope L a cd).kindOf "StopIteration" = some .globalImplicit := by rfl)
    (hE : PassesOwnAt (model prog w) ((A₀.deeper (envOf name scope L a cd)).mark (some (.ref e))) (A₀.deeper (envOf name scope L a cd)) (envOf name scope L a cd) E := by passes_own) :
    wpAny (model prog w) (A₀.deeper (envOf name scope L a cd)) (noteFrame (.ref e) (envOf name scope L a cd))
      (fun _ s₂ => wpAny (model prog w) (A₀.deeper (envOf name scope L a cd)) (setFlight (.ref e) none) (fun _ s₃ =>
        wpAny (model prog w) (A₀.deeper (envOf name scope L a cd)) (handleBy (.ref e) (envOf name scope L a cd) (.ExceptHandler (some (.Name "StopIteration" np)) none (b₀ :: suite) pos :: rest)) Q E s₃) E s₂) E s' := by
  have N' : News h₀ L h₁ (offs fr' Y ++ fr') := News.sub N fun q hq => by
    rcases List.mem_append.mp hq with hq | hq
    · exact (of_offs hq).1
    · exact hin q hq
  refine TLg.noted_newA hfr Fs hx F N' (fun q hq hm => ?_) (fun h' fr2 SU Fs2 H => ?_) hk
  · rcases List.mem_cons.mp hm with e | hm
    · exact (N q (of_offs hq).1).2.1 e
    · exact (of_offs hq).2 hm
  refine TT.HeldNA.land (s' := { s' with heap := h' }) H fun h'' H2 => ?_
  refine wpAny_handleBy_builtin (X := "StopIteration") (T := "StopIteration") (b := true) (isSubtype_of_subB (by decide +kernel)) (isSubtype_of_subB (by decide +kernel)) (isSubtype_of_subB (by decide +kernel))
    (wpAny_passesOwnAt hE (name_B H2.held.fr X₀ (topRead_of T) ex (by decide +kernel) (by decide) ⟨rfl, H2.isA, ?_⟩ hk hxk (by decide)))
  rw [if_pos rfl]
  exact TT.HeldNA.lands (s' := { s' with heap := h'' }) H2 fun h' F' N' => wpAny_passesOwnAt hE (k h' fr2 SU Fs2 F' N')
end

structure Lv where
  k : Int
  mw : Addr
  ia : Addr
  pos : Nat
  fin : Bool
/-- the four objects of _find_cycle -/
structure Fa where
  st : Addr
  it : Addr
  se : Addr
  nd : Addr
def Old (X fr : List (Addr × Obj)) (a : Fa) (b : Addr) : Prop := b = a.st ∨ b = a.it ∨ b = a.se ∨ b = a.nd ∨ (∃ q ∈ X, q.1 = b) ∨ ∃ q ∈ fr, q.1 = b
structure FaOk (X fr : List (Addr × Obj)) (a : Fa) : Prop where
  ti : a.st ≠ a.it
  ts : a.st ≠ a.se
  tn : a.st ≠ a.nd
  is : a.it ≠ a.se
  inn : a.it ≠ a.nd
  sn : a.se ≠ a.nd
  x : ∀ q ∈ X, q.1 ≠ a.st ∧ q.1 ≠ a.it ∧ q.1 ≠ a.se ∧ q.1 ≠ a.nd
  f : ∀ q ∈ fr, q.1 ≠ a.st ∧ q.1 ≠ a.it ∧ q.1 ≠ a.se ∧ q.1 ≠ a.nd
structure Fc (w : World) (X : List (Addr × Obj)) (g : Sg) (fr : List (Addr × Obj)) (a : Fa) (lv : List Lv) (P : Int → Bool) (Y : List (Addr × Obj)) : Prop where
  old : ∀ q ∈ X, q.1 ∉ fr.map (·.1) → q ∈ Y
  frs : ∃ fr', TI.SameUp fr fr' ∧ ∀ q ∈ fr', q ∈ Y
  stk : ∃ vs n, (a.st, listO vs n) ∈ Y ∧ IntsAre vs (lv.map Lv.k)
  its : ∃ n, (a.it, listO (lv.map fun l => Value.ref l.mw) n) ∈ Y
  set : ∃ o n, (a.se, o) ∈ Y ∧ o.SetObjOf (intKind PySem.Challenge.rw_mq0314_01.row.prog w) P n ∧ n ≤ (g.ks.filter P).length
  dic : ∃ o kvs, (a.nd, o) ∈ Y ∧ o.IsDictOf (intKind PySem.Challenge.rw_mq0314_01.row.prog w) kvs ∧ kvs.map (·.1) = lv.map Lv.k
  low : ∀ l ∈ lv, ¬ Old X fr a l.ia ∧ ¬ Old X fr a l.mw
  wr : ∀ l ∈ lv, (l.mw, mwO l.ia) ∈ Y
  itr : ∀ l ∈ lv, l.fin = false → (l.ia, iterO (g.la l.k) l.pos) ∈ Y
  ndp : (lv.map Lv.ia).Nodup
  inc : (lv.map Lv.k).Pairwise (· < ·)
  mem : ∀ l ∈ lv, l.k ∈ g.ks ∧ P l.k = true
abbrev mapN (m₀ : Str → Option Value) (v : Int) (t : Tok) : Str → Option Value := fun y => if y = Str.ofString "node" then some (.int v t) else m₀ y
def mu (su : Int → List Int) (ks : List Int) (lv : List Lv) (P : Int → Bool) : Nat := ((ks.filter fun k => !P k).map fun k => 2 + (su k).length).sum + (lv.map fun l => 1 + ((su l.k).length - l.pos)).sum

section
variable {w : World} {X : List (Addr × Obj)} {g : Sg} {fr : List (Addr × Obj)} {a : Fa} {lv : List Lv} {P : Int → Bool} {Y Y' : List (Addr × Obj)}
theorem cnt_add {P : Int → Bool} {v : Int} (hP : P v = false) : ∀ {ks : List Int}, v ∈ ks → (ks.filter P).length + 1 ≤ (ks.filter fun k => P k || decide (k = v)).length
  | [], h => nomatch h
  | k :: ks, h => by
    have mono : (ks.filter P).length ≤ (ks.filter fun k => P k || decide (k = v)).length := by
      clear h
      induction ks with
      | nil => simp
      | cons x r ih => rw [List.filter_cons, List.filter_cons]; cases hx : P x <;> by_cases e : x = v <;> simp [e] <;> omega
    by_cases e : k = v
    · subst e
      rw [List.filter_cons_of_neg (by simp [hP]), List.filter_cons_of_pos (by simp)]
      simp only [List.length_cons]; omega
    · have h' : v ∈ ks := by
        rcases List.mem_cons.mp h with q | q
        · exact absurd q.symm e
        · exact q
      have ih := cnt_add hP h'
      rw [List.filter_cons, List.filter_cons]
      cases hx : P k <;> simp [e] <;> omega
theorem sum_rem {P : Int → Bool} {v : Int} (f : Int → Nat) (hP : P v = false) : ∀ {ks : List Int}, v ∈ ks → ((ks.filter fun k => !(P k || decide (k = v))).map f).sum + f v ≤ ((ks.filter fun k => !P k).map f).sum
  | [], h => nomatch h
  | k :: ks, h => by
    have mono : ((ks.filter fun k => !(P k || decide (k = v))).map f).sum ≤ ((ks.filter fun k => !P k).map f).sum := by
      clear h
      induction ks with
      | nil => simp
      | cons x r ih => rw [List.filter_cons, List.filter_cons]; cases hx : P x <;> by_cases e : x = v <;> simp [e] at ih ⊢ <;> omega
    by_cases e : k = v
    · subst e
      rw [List.filter_cons_of_neg (by simp), List.filter_cons_of_pos (by simp [hP])]
      simp only [List.map_cons, List.sum_cons]; omega
    · have h' : v ∈ ks := by
        rcases List.mem_cons.mp h with q | q
        · exact absurd q.symm e
        · exact q
      have ih := sum_rem f hP h'
      rw [List.filter_cons, List.filter_cons]
      cases hx : P k <;> simp [e] at ih ⊢ <;> omega
theorem mu_push {su : Int → List Int} {ks : List Int} {lv : List Lv} {P : Int → Bool} {v : Int} {M I : Addr} (hv : v ∈ ks) (hP : P v = false) : mu su ks (lv ++ [⟨v, M, I, 0, false⟩]) (fun k => P k || decide (k = v)) + 1 ≤ mu su ks lv P := by
  have h := sum_rem (fun k => 2 + (su k).length) hP hv
  unfold mu
  simp only [List.map_append, List.sum_append, List.map_cons, List.map_nil, List.sum_cons, List.sum_nil]
  omega
theorem mu_next {su : Int → List Int} {ks : List Int} {lv : List Lv} {l : Lv} {P : Int → Bool} {b : Bool} (h : l.pos < (su l.k).length) : mu su ks (lv ++ [{ l with pos := l.pos + 1, fin := b }]) P < mu su ks (lv ++ [l]) P := by
  unfold mu
  simp only [List.map_append, List.sum_append, List.map_cons, List.map_nil, List.sum_cons, List.sum_nil]
  omega
theorem mu_pop {su : Int → List Int} {ks : List Int} {lv : List Lv} {l : Lv} {P : Int → Bool} : mu su ks lv P < mu su ks (lv ++ [l]) P := by
  unfold mu
  simp only [List.map_append, List.sum_append, List.map_cons, List.map_nil, List.sum_cons, List.sum_nil]
  omega
theorem Fc.oldIn (fc : Fc w X g fr a lv P Y) {b : Addr} (h : Old X fr a b) : ∃ q ∈ Y, q.1 = b := by
  have hf : ∀ q ∈ fr, ∃ p ∈ Y, p.1 = q.1 := fun q hq => by
    obtain ⟨fr', SU, hin⟩ := fc.frs
    obtain ⟨sl, h1⟩ := SU.back q hq
    exact ⟨_, hin _ h1, rfl⟩
  rcases h with rfl | rfl | rfl | rfl | ⟨q, hq, rfl⟩ | ⟨q, hq, rfl⟩
  · obtain ⟨_, _, h, _⟩ := fc.stk; exact ⟨_, h, rfl⟩
  · obtain ⟨_, h⟩ := fc.its; exact ⟨_, h, rfl⟩
  · obtain ⟨_, _, h, _⟩ := fc.set; exact ⟨_, h, rfl⟩
  · obtain ⟨_, _, h, _⟩ := fc.dic; exact ⟨_, h, rfl⟩
  · by_cases e : q.1 ∈ fr.map (·.1)
    · obtain ⟨p, hp, e⟩ := List.mem_map.mp e
      obtain ⟨p', h1, h2⟩ := hf p hp
      exact ⟨p', h1, h2.trans e⟩
    · exact ⟨q, fc.old q hq e, rfl⟩
  · exact hf q hq
theorem Fc.frsUp (fc : Fc w X g fr a lv P Y) (up : ∀ q ∈ Y, (∃ p ∈ fr, p.1 = q.1) → q ∈ Y') : ∃ fr', TI.SameUp fr fr' ∧ ∀ q ∈ fr', q ∈ Y' := by
  obtain ⟨fr', SU, hin⟩ := fc.frs
  refine ⟨fr', SU, fun q hq => up q (hin q hq) ?_⟩
  obtain ⟨p, hp, e⟩ := SU.fwd q hq
  exact ⟨p, hp, e.symm⟩
/-- a node is laid on the stack -/
theorem Fc.push (fc : Fc w X g fr a lv P Y) (ok : FaOk X fr a) {v : Int} {I M : Addr} {t : Tok} {vs : List Value} {n1 n2 nS : Nat} {oS oD : Obj} {kvs : List (Int × Value)} (hv : v ∈ g.ks) (hP : P v = false) (hlt : ∀ l ∈ lv, l.k < v) (hfin : ∀ l ∈ lv, l.fin = false) (hI : IntsAre vs (lv.map Lv.k))
    (up : ∀ q ∈ Y, q.1 ≠ a.st → q.1 ≠ a.it → q.1 ≠ a.se → q.1 ≠ a.nd → q ∈ Y') (nI : ∀ q ∈ Y, q.1 ≠ I) (nM : ∀ q ∈ Y, q.1 ≠ M)
    (h1 : (a.st, listO (vs ++ [.int v t]) n1) ∈ Y') (h2 : (a.it, listO ((lv.map fun l => Value.ref l.mw) ++ [.ref M]) n2) ∈ Y') (h3 : (a.se, oS) ∈ Y') (h4 : (a.nd, oD) ∈ Y') (h5 : (M, mwO I) ∈ Y') (h6 : (I, iterO (g.la v) 0) ∈ Y')
    (hS : oS.SetObjOf (intKind PySem.Challenge.rw_mq0314_01.row.prog w) (fun k' => P k' || decide (k' = v)) nS) (hn : nS ≤ (g.ks.filter P).length + 1)
    (hD : oD.IsDictOf (intKind PySem.Challenge.rw_mq0314_01.row.prog w) kvs) (hkv : kvs.map (·.1) = lv.map Lv.k ++ [v]) :
    Fc w X g fr a (lv ++ [⟨v, M, I, 0, false⟩]) (fun k' => P k' || decide (k' = v)) Y' := by
  have mem1 : ∀ {l : Lv}, l ∈ lv ++ [(⟨v, M, I, 0, false⟩ : Lv)] → l ∈ lv ∨ l = ⟨v, M, I, 0, false⟩ := fun h => by
    rcases List.mem_append.mp h with h | h
    · exact .inl h
    · exact .inr (List.mem_singleton.mp h)
  refine ⟨fun q hq hn => up q (fc.old q hq hn) (ok.x q hq).1 (ok.x q hq).2.1 (ok.x q hq).2.2.1 (ok.x q hq).2.2.2, fc.frsUp fun q hq ⟨p, hp, e⟩ => ?_, ⟨_, _, h1, by rw [List.map_append]; exact hI.append (.cons _ _ .nil)⟩, ⟨_, by rw [List.map_append]; exact h2⟩, ⟨_, _, h3, hS, ?_⟩, ⟨_, _, h4, hD, by rw [List.map_append]; exact hkv⟩, ?_, ?_, ?_, ?_, ?_, ?_⟩
  · have := ok.f p hp
    rw [e] at this
    exact up q hq this.1 this.2.1 this.2.2.1 this.2.2.2
  · exact Nat.le_trans hn (cnt_add hP hv)
  · intro l hl
    rcases mem1 hl with hl | rfl
    · exact fc.low l hl
    · exact ⟨fun h => let ⟨q, hq, e⟩ := fc.oldIn h; nI q hq e, fun h => let ⟨q, hq, e⟩ := fc.oldIn h; nM q hq e⟩
  · intro l hl
    rcases mem1 hl with hl | rfl
    · have z := (fc.low l hl).2
      exact up _ (fc.wr l hl) (fun e => z (.inl e)) (fun e => z (.inr (.inl e))) (fun e => z (.inr (.inr (.inl e)))) (fun e => z (.inr (.inr (.inr (.inl e)))))
    · exact h5
  · intro l hl hf
    rcases mem1 hl with hl | rfl
    · have z := (fc.low l hl).1
      exact up _ (fc.itr l hl hf) (fun e => z (.inl e)) (fun e => z (.inr (.inl e))) (fun e => z (.inr (.inr (.inl e)))) (fun e => z (.inr (.inr (.inr (.inl e)))))
    · exact h6
  · rw [List.map_append, List.nodup_append]
    refine ⟨fc.ndp, by simp, fun x hx y hy => ?_⟩
    obtain ⟨l, hl, rfl⟩ := List.mem_map.mp hx
    have : y = I := by simpa using hy
    rw [this]; exact nI _ (fc.itr l hl (hfin l hl))
  · rw [List.map_append, List.pairwise_append]
    refine ⟨fc.inc, by simp, fun x hx y hy => ?_⟩
    obtain ⟨l, hl, rfl⟩ := List.mem_map.mp hx
    have : y = v := by simpa using hy
    rw [this]; exact hlt l hl
  · intro l hl
    rcases mem1 hl with hl | rfl
    · exact ⟨(fc.mem l hl).1, by simp [(fc.mem l hl).2]⟩
    · exact ⟨hv, by simp⟩
/-- only objects that are none of ours have turned, or the topmost iterator -/
theorem Fc.top {l : Lv} {p : Nat} {b : Bool} (fc : Fc w X g fr a (lv ++ [l]) P Y) {h₀ h : Heap} {L : Addr} (N : News h₀ L h Y) (hfin : l.fin = false) (up : ∀ q ∈ Y, q.1 ≠ l.ia → q ∈ Y') (hb : b = false → (l.ia, iterO (g.la l.k) p) ∈ Y') :
    Fc w X g fr a (lv ++ [{ l with pos := p, fin := b }]) P Y' := by
  have hl : l ∈ lv ++ [l] := List.mem_append_right _ (.head _)
  have z := (fc.low l hl).1
  have mem1 : ∀ {l' : Lv}, l' ∈ lv ++ [({ l with pos := p, fin := b } : Lv)] → l' ∈ lv ∨ l' = { l with pos := p, fin := b } := fun h => by
    rcases List.mem_append.mp h with h | h
    · exact .inl h
    · exact .inr (List.mem_singleton.mp h)
  have ek : (lv ++ [({ l with pos := p, fin := b } : Lv)]).map Lv.k = (lv ++ [l]).map Lv.k := by simp
  have em : (lv ++ [({ l with pos := p, fin := b } : Lv)]).map (fun l => Value.ref l.mw) = (lv ++ [l]).map fun l => Value.ref l.mw := by simp
  have ei : (lv ++ [({ l with pos := p, fin := b } : Lv)]).map Lv.ia = (lv ++ [l]).map Lv.ia := by simp
  have nmw : ∀ l' ∈ lv ++ [l], l'.mw ≠ l.ia := fun l' hl' => News.apart N (fc.wr l' hl') (fc.itr l hl hfin) (by intro e; have := congrArg Obj.cls e; simp at this)
  refine ⟨fun q hq hn => up q (fc.old q hq hn) fun e => z (.inr (.inr (.inr (.inr (.inl ⟨q, hq, e⟩))))), fc.frsUp fun q hq ⟨p, hp, e⟩ => up q hq fun e' => z (.inr (.inr (.inr (.inr (.inr ⟨p, hp, e.trans e'⟩))))), ?_, ?_, ?_, ?_, ?_, ?_, ?_, ?_, ?_, ?_⟩
  · obtain ⟨vs, n, h1, h2⟩ := fc.stk
    exact ⟨vs, n, up _ h1 fun e => z (.inl e.symm), by rw [ek]; exact h2⟩
  · obtain ⟨n, h1⟩ := fc.its
    exact ⟨n, by rw [em]; exact up _ h1 fun e => z (.inr (.inl e.symm))⟩
  · obtain ⟨o, n, h1, h2⟩ := fc.set
    exact ⟨o, n, up _ h1 fun e => z (.inr (.inr (.inl e.symm))), h2⟩
  · obtain ⟨o, n, h1, h2, h3⟩ := fc.dic
    exact ⟨o, n, up _ h1 fun e => z (.inr (.inr (.inr (.inl e.symm)))), h2, by rw [ek]; exact h3⟩
  · intro l' hl'
    rcases mem1 hl' with h | rfl
    · exact fc.low l' (List.mem_append_left _ h)
    · exact fc.low l hl
  · intro l' hl'
    rcases mem1 hl' with h | rfl
    · exact up _ (fc.wr l' (List.mem_append_left _ h)) (nmw l' (List.mem_append_left _ h))
    · exact up _ (fc.wr l hl) (nmw l hl)
  · intro l' hl' hf
    rcases mem1 hl' with h | rfl
    · refine up _ (fc.itr l' (List.mem_append_left _ h) hf) fun e => ?_
      have := fc.ndp
      rw [List.map_append, List.nodup_append] at this
      exact this.2.2 _ (List.mem_map_of_mem h) _ (by simp) e
    · exact hb hf
  · rw [ei]; exact fc.ndp
  · rw [ek]; exact fc.inc
  · intro l' hl'
    rcases mem1 hl' with h | rfl
    · exact fc.mem l' (List.mem_append_left _ h)
    · exact fc.mem l hl
/-- the frames have been noted -/
theorem Fc.noted (fc : Fc w X g fr a lv P Y) (ok : FaOk X fr a) {fr' fr2 : List (Addr × Obj)} (SU : TI.SameUp fr fr') (SU2 : TI.SameUp fr' fr2) : Fc w X g fr a lv P (offs fr' Y ++ fr2) := by
  have em : fr'.map (·.1) = fr.map (·.1) := SameUp.map1 SU
  have up : ∀ q ∈ Y, (∀ p ∈ fr, p.1 ≠ q.1) → q ∈ offs fr' Y ++ fr2 := fun q hq hn => List.mem_append_left _ (mem_offs hq (by
    rw [em]; intro h; obtain ⟨p, hp, e⟩ := List.mem_map.mp h; exact hn p hp e))
  refine ⟨fun q hq hn => up q (fc.old q hq hn) fun p hp e => hn (List.mem_map.mpr ⟨p, hp, e⟩), ⟨fr2, SU.trans SU2, fun q hq => List.mem_append_right _ hq⟩, ?_, ?_, ?_, ?_, fc.low, ?_, ?_, fc.ndp, fc.inc, fc.mem⟩
  · obtain ⟨vs, n, h1, h2⟩ := fc.stk
    exact ⟨vs, n, up _ h1 fun p hp => (ok.f p hp).1, h2⟩
  · obtain ⟨n, h1⟩ := fc.its
    exact ⟨n, up _ h1 fun p hp => (ok.f p hp).2.1⟩
  · obtain ⟨o, n, h1, h2⟩ := fc.set
    exact ⟨o, n, up _ h1 fun p hp => (ok.f p hp).2.2.1, h2⟩
  · obtain ⟨o, n, h1, h2, h3⟩ := fc.dic
    exact ⟨o, n, up _ h1 fun p hp => (ok.f p hp).2.2.2, h2, h3⟩
  · intro l hl
    exact up _ (fc.wr l hl) fun p hp e => (fc.low l hl).2 (.inr (.inr (.inr (.inr (.inr ⟨p, hp, e⟩)))))
  · intro l hl hf
    exact up _ (fc.itr l hl hf) fun p hp e => (fc.low l hl).1 (.inr (.inr (.inr (.inr (.inr ⟨p, hp, e⟩)))))
theorem Fc.pop {l : Lv} {vs : List Value} {n1 n2 : Nat} {oD : Obj} {kvs : List (Int × Value)} (fc : Fc w X g fr a (lv ++ [l]) P Y) (ok : FaOk X fr a) (up : ∀ q ∈ Y, q.1 ≠ a.st → q.1 ≠ a.it → q.1 ≠ a.nd → q ∈ Y')
    (h1 : (a.st, listO vs n1) ∈ Y') (hI : IntsAre vs (lv.map Lv.k)) (h2 : (a.it, listO (lv.map fun l => Value.ref l.mw) n2) ∈ Y') (h4 : (a.nd, oD) ∈ Y') (hD : oD.IsDictOf (intKind PySem.Challenge.rw_mq0314_01.row.prog w) kvs) (hkv : kvs.map (·.1) = lv.map Lv.k) :
    Fc w X g fr a lv P Y' := by
  have sub : ∀ {l'}, l' ∈ lv → l' ∈ lv ++ [l] := fun h => List.mem_append_left _ h
  refine ⟨fun q hq hn => up q (fc.old q hq hn) (ok.x q hq).1 (ok.x q hq).2.1 (ok.x q hq).2.2.2, fc.frsUp fun q hq ⟨p, hp, e⟩ => ?_, ⟨_, _, h1, hI⟩, ⟨_, h2⟩, ?_, ⟨_, _, h4, hD, hkv⟩, fun l' h => fc.low l' (sub h), ?_, ?_, ?_, ?_, fun l' h => fc.mem l' (sub h)⟩
  · have := ok.f p hp
    rw [e] at this
    exact up q hq this.1 this.2.1 this.2.2.2
  · obtain ⟨o, n, h1, h2⟩ := fc.set
    exact ⟨o, n, up _ h1 ok.ts.symm ok.is.symm ok.sn, h2⟩
  · intro l' hl
    have z := (fc.low l' (sub hl)).2
    exact up _ (fc.wr l' (sub hl)) (fun e => z (.inl e)) (fun e => z (.inr (.inl e))) (fun e => z (.inr (.inr (.inr (.inl e)))))
  · intro l' hl hf
    have z := (fc.low l' (sub hl)).1
    exact up _ (fc.itr l' (sub hl) hf) (fun e => z (.inl e)) (fun e => z (.inr (.inl e))) (fun e => z (.inr (.inr (.inr (.inl e)))))
  · have := fc.ndp
    rw [List.map_append, List.nodup_append] at this
    exact this.1
  · have := fc.inc
    rw [List.map_append, List.pairwise_append] at this
    exact this.1
end
theorem valueAt_none {kvs : List (Int × Value)} {v : Int} (h : v ∉ kvs.map (·.1)) : valueAt kvs v = none := by
  induction kvs with
  | nil => rfl
  | cons a r ih =>
    have h1 : a.1 ≠ v := fun e => h (by simp [e])
    have h2 : v ∉ r.map (·.1) := fun q => h (by rw [List.map_cons]; exact .tail _ q)
    unfold valueAt at ih ⊢
    rw [List.find?_cons_of_neg (by simp [h1])]
    exact ih h2
theorem valueAt_some {kvs : List (Int × Value)} {v : Int} (h : v ∈ kvs.map (·.1)) : (valueAt kvs v).isSome = true := by
  induction kvs with
  | nil => cases h
  | cons a r ih =>
    unfold valueAt at ih ⊢
    by_cases e : a.1 = v
    · rw [List.find?_cons_of_pos (by simp [e])]; rfl
    · rw [List.find?_cons_of_neg (by simp [e])]
      refine ih ?_
      rw [List.map_cons] at h
      rcases List.mem_cons.mp h with q | q
      · exact absurd q.symm e
      · exact q
theorem stored_new {kvs : List (Int × Value)} {v : Int} {x : Value} (h : v ∉ kvs.map (·.1)) : (stored kvs v x).map (·.1) = kvs.map (·.1) ++ [v] := by
  unfold stored
  rw [if_neg (by
    rw [Bool.not_eq_true, List.any_eq_false]
    intro kv hkv
    have hn : ¬ kv.1 = v := fun q => h (List.mem_map.mpr ⟨kv, hkv, q⟩)
    simpa using hn)]
  simp
theorem without_last {kvs : List (Int × Value)} {ks : List Int} {v : Int} (h : kvs.map (·.1) = ks ++ [v]) (hn : v ∉ ks) : (without kvs v).map (·.1) = ks := by
  have e : (without kvs v).map (·.1) = (kvs.map (·.1)).filter fun k => decide (k ≠ v) := by
    rw [List.filter_map]; rfl
  have e2 : (ks.filter fun k => decide (k ≠ v)) = ks := List.filter_eq_self.mpr fun k hk => by
    have : k ≠ v := fun q => hn (by rw [← q]; exact hk)
    simpa using this
  rw [e, h, List.filter_append, e2]
  simp
section
variable {w : World} {X : List (Addr × Obj)} {g : Sg} {fr : List (Addr × Obj)} {a : Fa} {lv : List Lv} {P : Int → Bool} {Y Y' : List (Addr × Obj)}
theorem Fc.nodup (fc : Fc w X g fr a lv P Y) : (lv.map Lv.k).Nodup := fc.inc.imp fun h => Int.ne_of_lt h
theorem Fc.len (fc : Fc w X g fr a lv P Y) (rng : ∀ k ∈ g.ks, 0 ≤ k ∧ k < 6) : lv.length ≤ 6 := by
  have := nodup_le 6 _ fc.nodup fun k hk => by
    obtain ⟨l, hl, rfl⟩ := List.mem_map.mp hk
    exact rng _ (fc.mem l hl).1
  rwa [List.length_map] at this
theorem not_on {v : Int} (hlt : ∀ l ∈ lv, l.k < v) : v ∉ lv.map Lv.k := fun h => by
  obtain ⟨l, hl, e⟩ := List.mem_map.mp h
  have := hlt l hl
  omega
theorem push_step {su : Int → List Int} {v : Int} {vs : List Value} {nst nit n n1 n2 : Nat} {oS oD oD2 : Obj} {kvs : List (Int × Value)} {I M : Addr} {x : Value} {t : Tok} (fc : Fc w X g fr a lv P Y) (ok : FaOk X fr a) (hv : v ∈ g.ks) (hP : ¬ P v = true) (hlt : ∀ l ∈ lv, l.k < v) (hfin : ∀ l ∈ lv, l.fin = false)
    (hI : IntsAre vs (lv.map Lv.k)) (hst : (a.st, listO vs nst) ∈ Y) (hit : (a.it, listO (lv.map fun l => Value.ref l.mw) nit) ∈ Y) (hnd : (a.nd, oD) ∈ Y)
    (lI : ∀ p ∈ (a.se, oS) :: off a.se Y, p.1 < I) (lM : ∀ p ∈ (I, iterO (g.la v) 0) :: (a.se, oS) :: off a.se Y, p.1 < M)
    (hS : oS.SetObjOf (intKind PySem.Challenge.rw_mq0314_01.row.prog w) (fun k' => P k' || decide (k' = v)) (if P v = true then n else n + 1)) (hn : n ≤ (g.ks.filter P).length)
    (hD : oD2.IsDictOf (intKind PySem.Challenge.rw_mq0314_01.row.prog w) (stored kvs v x)) (hkv : kvs.map (·.1) = lv.map Lv.k) :
    ∃ lv2 P2, (∀ l ∈ lv2, l.fin = false) ∧ Fc w X g fr a lv2 P2 ((a.st, listO (vs ++ [.int v t]) n1) :: off a.st ((a.nd, oD2) :: off a.nd ((a.it, listO ((lv.map fun l => Value.ref l.mw) ++ [.ref M]) n2) :: off a.it ((M, mwO I) :: (I, iterO (g.la v) 0) :: (a.se, oS) :: off a.se Y)))) ∧ mu su g.ks lv2 P2 ≤ mu su g.ks lv P := by
  have hPf : P v = false := by simpa using hP
  have lt : ∀ q ∈ Y, q.1 < I := fun q hq => by
    by_cases e : q.1 = a.se
    · rw [e]; exact lI _ (.head _)
    · exact lI _ (.tail _ (mem_off hq e))
  have hIM : I < M := lM _ (.head _)
  have iI : ∀ {b : Addr} {o : Obj}, (b, o) ∈ Y → I ≠ b := fun h e => absurd (lt _ h) (by rw [← e]; exact Nat.lt_irrefl _)
  have iM : ∀ {b : Addr} {o : Obj}, (b, o) ∈ Y → M ≠ b := fun h e => absurd (Nat.lt_trans (lt _ h) hIM) (by rw [← e]; exact Nat.lt_irrefl _)
  refine ⟨lv ++ [⟨v, M, I, 0, false⟩], _, ?_, Fc.push (n2 := n2) fc ok hv hPf hlt hfin hI ?_ (fun q hq => Nat.ne_of_lt (lt q hq)) (fun q hq => Nat.ne_of_lt (Nat.lt_trans (lt q hq) hIM)) (.head _) ?_ ?_ ?_ ?_ ?_ hS ?_ hD ?_, Nat.le_of_succ_le (mu_push hv hPf)⟩
  · intro l hl
    rcases List.mem_append.mp hl with h | h
    · exact hfin l h
    · rw [List.mem_singleton.mp h]
  · intro q hq e1 e2 e3 e4
    exact .tail _ (mem_off (.tail _ (mem_off (.tail _ (mem_off (.tail _ (.tail _ (.tail _ (mem_off hq e3)))) e2)) e4)) e1)
  · exact .tail _ (mem_off (.tail _ (mem_off (.head _) ok.inn)) ok.ti.symm)
  · exact .tail _ (mem_off (.tail _ (mem_off (.tail _ (mem_off (.tail _ (.tail _ (.head _))) ok.is.symm)) ok.sn)) ok.ts.symm)
  · exact .tail _ (mem_off (.head _) ok.tn.symm)
  · exact .tail _ (mem_off (.tail _ (mem_off (.tail _ (mem_off (.head _) (iM hit))) (iM hnd))) (iM hst))
  · exact .tail _ (mem_off (.tail _ (mem_off (.tail _ (mem_off (.tail _ (.head _)) (iI hit))) (iI hnd))) (iI hst))
  · rw [if_neg hP]; omega
  · rw [stored_new (by rw [hkv]; exact not_on hlt), hkv]
theorem truthy_snoc {prog : Program} {A : Around} {E : Value → Shared → Prop} {s : Shared} {h₀ : Heap} {L l : Addr} {vs : List Value} {x : Value} {k : Nat} {Q : Bool → Shared → Prop} (N : News h₀ L s.heap X) (hm : (l, listO (vs ++ [x]) k) ∈ X) (hz : vs.length ≤ 1000) (h : Q true { s with toks := s.toks + 1 + 1 }) :
    wpAny (model prog w) A (truthy (.ref l)) Q E s := truthy_lst N hm (by simp; omega) (by simpa using h)
theorem truthy_nil {prog : Program} {A : Around} {E : Value → Shared → Prop} {s : Shared} {h₀ : Heap} {L l : Addr} {k : Nat} {Q : Bool → Shared → Prop} (N : News h₀ L s.heap X) (hm : (l, listO [] k) ∈ X) (h : Q false { s with toks := s.toks + 1 + 1 }) :
    wpAny (model prog w) A (truthy (.ref l)) Q E s := truthy_lst N hm (by simp) (by simpa using h)
theorem last_X {prog : Program} {A : Around} {E : Value → Shared → Prop} {s : Shared} {h₀ : Heap} {L l : Addr} {value slice : Expr} {u : Tok} {vs : List Value} {x : Value} {k : Nat} {Q : Value → Shared → Prop} (N : News h₀ L s.heap X) (hm : (l, listO (vs ++ [x]) k) ∈ X) (h : Q x s)
    (hs : subscripted slice false (.ref l) (.int (-1) u) = operate [.ref l, .int (-1) u] (getItem (.ref l) (.int (-1) u)) := by with_unfolding_all rfl) :
    wpAny (model prog w) A (subscriptTail value slice (.ref l) (.int (-1) u)) Q E s := by
  refine kde_neg (j := vs.length) (isLst_of N hm) (by decide) (by decide) ?_ (by simp) h hs
  unfold seqIndex?
  have h1 : (-1 + ((vs ++ [x]).length : Int)) = (vs.length : Int) := by simp; omega
  have h2 : (decide ((0 : Int) ≤ (vs.length : Int)) && decide ((vs.length : Int) < ((vs ++ [x]).length : Int))) = true := by simp; omega
  simp only [if_pos (show (-1 : Int) < 0 by decide), h1, h2, if_true, Int.toNat_natCast]
end

theorem snoc_cases {α : Type} : ∀ (l : List α), l = [] ∨ ∃ r x, l = r ++ [x]
  | [] => .inl rfl
  | a :: l => by
    rcases snoc_cases l with rfl | ⟨r, x, rfl⟩
    · exact .inr ⟨[], a, rfl⟩
    · exact .inr ⟨a :: r, x, rfl⟩
theorem ints_snoc_inv {vs : List Value} {ns : List Int} {n : Int} (h : IntsAre vs (ns ++ [n])) : ∃ vs' t, vs = vs' ++ [.int n t] ∧ IntsAre vs' ns := by
  induction ns generalizing vs with
  | nil =>
    cases h with
    | cons n t r => cases r; exact ⟨[], t, rfl, .nil⟩
  | cons a ns ih =>
    cases h with
    | cons n t r =>
      obtain ⟨vs', t', rfl, h'⟩ := ih r
      exact ⟨_ :: vs', t', rfl, .cons _ _ h'⟩
theorem callWith_mw {prog : Program} {w : World} {A : Around} {E : Value → Shared → Prop} {s : Shared} {h₀ : Heap} {L u it : Addr} {X : List (Addr × Obj)} {pos : Pos} {env : Env} {Q : Value → Shared → Prop} (N : News h₀ L s.heap X) (hu : (u, mwO it) ∈ X) (h : wpAny (model prog w) A (call (.ref u) []) Q E s) :
    wpAny (model prog w) A (callWith pos (.ref u) [] (backTo pos (starEach [] env)) []) Q E s := by
  show wpAny (model prog w) A (callWith pos (.ref u) [] [] []) Q E s
  unfold callWith
  refine wpAny_bind (wpAny_holding (wpAny_pure (wpAny_bind (wpAny_standAt ?_))))
  simp only [List.any_nil, Bool.or_false]
  refine wpAny_bind (m := keeperOf (.ref u)) ?_
  unfold keeperOf
  refine wpAny_bind (wpAny_load (N _ hu).1 ?_)
  simp only [show (Value.type "method-wrapper" != Value.type "method") = true by decide, show (Value.type "method-wrapper" == Value.type "builtin_function_or_method" || Value.type "method-wrapper" == Value.type "method-wrapper") = true by decide, if_true]
  refine wpAny_pure ?_
  exact wpAny_bind (wpAny_mono h (fun r s₂ hr => wpAny_bind (wpAny_holding (wpAny_point (wpAny_pure hr)))) fun _ _ x => x)
/-- behind the loop: what the turn's iterator was laid on -/
theorem Fc.shrink {w : World} {X : List (Addr × Obj)} {g : Sg} {fr : List (Addr × Obj)} {a : Fa} {P : Int → Bool} {Y : List (Addr × Obj)} {I : Addr} {io : Obj} (fc : Fc w ((I, io) :: X) g fr a [] P Y) (ok : FaOk ((I, io) :: X) fr a) (hX : ∀ q ∈ X, q.1 ≠ I) (hF : ∀ q ∈ fr, q.1 ≠ I) : Fc w X g fr a [] P (off I Y) := by
  have z := ok.x _ (.head _)
  refine ⟨fun q hq hn => mem_off (fc.old q (.tail _ hq) hn) (hX q hq), fc.frsUp fun q hq ⟨p, hp, e⟩ => mem_off hq (by rw [← e]; exact hF p hp), ?_, ?_, ?_, ?_, (fun _ h => nomatch h), (fun _ h => nomatch h), (fun _ h => nomatch h), fc.ndp, fc.inc, (fun _ h => nomatch h)⟩
  · obtain ⟨vs, n, h1, h2⟩ := fc.stk
    exact ⟨vs, n, mem_off h1 z.1.symm, h2⟩
  · obtain ⟨n, h1⟩ := fc.its
    exact ⟨n, mem_off h1 z.2.1.symm⟩
  · obtain ⟨o, n, h1, h2⟩ := fc.set
    exact ⟨o, n, mem_off h1 z.2.2.1.symm, h2⟩
  · obtain ⟨o, n, h1, h2⟩ := fc.dic
    exact ⟨o, n, mem_off h1 z.2.2.2.symm, h2⟩
theorem Fc.grow {w : World} {X : List (Addr × Obj)} {g : Sg} {fr : List (Addr × Obj)} {a : Fa} {P : Int → Bool} {Y : List (Addr × Obj)} {q : Addr × Obj} (fc : Fc w X g fr a [] P Y) : Fc w (q :: X) g fr a [] P (q :: Y) := by
  refine ⟨fun p hp hn => ?_, ?_, ?_, ?_, ?_, ?_, (fun _ h => nomatch h), (fun _ h => nomatch h), (fun _ h => nomatch h), fc.ndp, fc.inc, (fun _ h => nomatch h)⟩
  · rcases List.mem_cons.mp hp with rfl | hp
    · exact .head _
    · exact .tail _ (fc.old p hp hn)
  · exact fc.frsUp fun p hp _ => .tail _ hp
  · obtain ⟨vs, n, h1, h2⟩ := fc.stk
    exact ⟨vs, n, .tail _ h1, h2⟩
  · obtain ⟨n, h1⟩ := fc.its
    exact ⟨n, .tail _ h1⟩
  · obtain ⟨o, n, h1, h2⟩ := fc.set
    exact ⟨o, n, .tail _ h1, h2⟩
  · obtain ⟨o, n, h1, h2⟩ := fc.dic
    exact ⟨o, n, .tail _ h1, h2⟩

theorem mapN_set {m₀ : Str → Option Value} {v u : Int} {t tu : Tok} : (fun y => if y = Str.ofString "node" then some (Value.int u tu) else mapN m₀ v t y) = mapN m₀ u tu := by
  funext y
  by_cases e : y = Str.ofString "node" <;> simp [e, mapN]
theorem mapN_of {m₀ m₁ : Str → Option Value} {u : Int} {tu : Tok} (h : Ag ["node"] m₁ m₀) : (fun y => if y = Str.ofString "node" then some (Value.int u tu) else m₁ y) = mapN m₀ u tu := by
  funext y
  by_cases e : y = Str.ofString "node"
  · simp [e, mapN]
  · simp only [if_neg e, Mine.mapN]
    exact h y (by simp only [List.contains_cons, List.contains_nil, Bool.or_false]; exact beq_false_of_ne e)
theorem Ag.ofN {m₀ : Str → Option Value} {u : Int} {tu : Tok} : Ag ["node"] (mapN m₀ u tu) m₀ := fun y hy => by
  have e : y ≠ Str.ofString "node" := fun q => by
    rw [q] at hy
    simp only [List.contains_cons, List.contains_nil, Bool.or_false] at hy
    exact absurd (beq_self_eq_true _) (by rw [show (("node" : Str)) = Str.ofString "node" from rfl] at hy; rw [hy]; decide)
  simp only [mapN, if_neg e]
theorem FaOk.cons {X fr : List (Addr × Obj)} {a : Fa} (ok : FaOk X fr a) {q : Addr × Obj} (h : q.1 ≠ a.st ∧ q.1 ≠ a.it ∧ q.1 ≠ a.se ∧ q.1 ≠ a.nd) : FaOk (q :: X) fr a :=
  ⟨ok.ti, ok.ts, ok.tn, ok.is, ok.inn, ok.sn, fun p hp => by
    rcases List.mem_cons.mp hp with rfl | hp
    · exact h
    · exact ok.x p hp, ok.f⟩
theorem inc_last {lv : List Lv} {l : Lv} (h : ((lv ++ [l]).map Lv.k).Pairwise (· < ·)) {l' : Lv} (hl : l' ∈ lv) : l'.k < l.k := by
  rw [List.map_append, List.pairwise_append] at h
  exact h.2.2 _ (List.mem_map_of_mem hl) _ (by simp)
end
theorem anew2 : (0 : Nat) = 0 := by
  first | walk1 | rfl
section
local macro_rules | `(tactic| walk_at "compareOp In int ref") => `(tactic| (k_here; k_dflt (first
  | (refine' kse_in (knd := PySem.intKind _ _) (focus ?N ?m) (UpdF.head off_ne) ?d ?z (intKind_is _ _ _ _) rfl ?_; (case N => k_asm); (case m => k_mem); (case d => assumption); (case z => (unfold scanBound; omega)))
  | (refine' kda_in (knd := PySem.intKind _ _) ?N ?m ?d ?l (intKind_is _ _ _ _) _ ?b ?_; (case N => k_asm); (case m => k_mem); (case d => assumption); (case l => assumption); (case b => assumption)))))
local macro_rules | `(tactic| walk_at "getMethod ref") => `(tactic| (k_here; (with_reducible show wpAny _ _ (getMethod (Value.ref _) (Str.ofString "add") _) _ _ _); k_dflt (refine' kse_method (knd := PySem.intKind _ _) (focus ?N ?m) (UpdF.head off_ne) ?d ?z ?_; (case N => k_asm); (case m => k_mem); (case d => assumption); (case z => (unfold scanBound; omega)))))
local macro_rules | `(tactic| walk_at "call builtin:set.add") => `(tactic| (k_here; k_dflt (refine' kse_add (knd := PySem.intKind _ _) ?F (focus ?N ?m) (UpdF.head off_ne) ?d ?z (intKind_is _ _ _ _) rfl ?_; (case F => k_asm); (case N => k_asm); (case m => k_mem); (case d => assumption); (case z => (unfold scanBound; omega))); intro h' o' F' N' hs'))
local macro_rules | `(tactic| walk_at "call builtin:iter") => `(tactic| (k_here; (with_reducible show wpAny _ _ (call (Value.builtin "iter") [Value.ref _]) _ _ _); k_dflt (refine' iter_X ?F ?N ?m ?_; (case F => k_asm); (case N => k_asm); (case m => k_mem)); intro I' h' F' N' l1))
local macro_rules | `(tactic| walk_at "getAttr ref") => `(tactic| (k_here; (with_reducible show wpAny _ _ (getAttr (Value.ref _) (Str.ofString "__next__") _) _ _ _); k_dflt (refine' next_attr ?F ?N ?m ?_; (case F => k_asm); (case N => k_asm); (case m => k_mem)); intro M' h' F' N' l1))
local macro_rules | `(tactic| walk_at "truthy ref") => `(tactic| (k_here; (with_reducible show wpAny _ _ (truthy (Value.ref _)) _ _ _); k_dflt (first | (refine' truthy_snoc ?N ?m ?z ?_; (case N => k_asm); (case m => k_mem); (case z => omega)) | (refine' truthy_nil ?N ?m ?_; (case N => k_asm); (case m => k_mem)))))
local macro_rules | `(tactic| walk_at "subscriptTail") => `(tactic| (k_here; (with_reducible show wpAny _ _ (subscriptTail _ _ (Value.ref _) (Value.int (-1) _)) _ _ _); k_dflt (refine' last_X ?N ?m ?_; (case N => k_asm); (case m => k_mem))))
local macro_rules | `(tactic| walk_at "call builtin:list.pop") => `(tactic| (k_here; (with_reducible show wpAny _ _ (call (Value.builtin _) [Value.ref _]) _ _ _); k_dflt (refine' pop_X ?F ?N ?m ?z ?_; (case F => k_asm); (case N => k_asm); (case m => k_mem); (case z => omega)); intro h' F' N'))
local macro_rules | `(tactic| walk_at "delItem ref int") => `(tactic| (k_here; k_dflt (refine' kob_del (knd := PySem.intKind _ _) ?F (focus ?N ?m) (UpdF.head off_ne) ?d (intKind_is _ _ _ _) ?l ?z ?_; (case F => k_asm); (case N => k_asm); (case m => k_mem); (case d => assumption); (case l => assumption); (case z => (rw [sizeLine_eq]; omega))); intro h' o' F' N' hd'))
local macro_rules | `(tactic| walk_at $s:str) => if ["exec While", "exec Try"].contains s.getString then `(tactic| (refine Stop.out ?_)) else Lean.Macro.throwUnsupported
theorem find_cycle_spec {w : World} {X : List (Addr × Obj)} {g : Sg} {np : Int → Int} {su : Int → List Int} {rv : Value} {p f : Int} (S : Srt w X g np su rv p f) {outer : List Env} {frs : List (Addr × Obj)} (Fs : TI.Frs outer frs) (hfr : ∀ q ∈ frs, q ∈ X) (hap : ∀ b, At g b → b ∉ frs.map (·.1)) (hsu : ∀ k ∈ g.ks, ∀ j ∈ su k, j ∈ g.ks ∧ k < j) :
    SpecU 1 w 134 [.ref g.sx] X outer frs (fun r X' frs' => r = .none ∧ ∀ q ∈ X, q.1 ∉ frs.map (·.1) → q ∈ X') := by
  unfold SpecU
  k_fill
  intro loose mean mg mb dp un gd cn cs a ccd cl h₀ L m s Q E F KX N T hk hdp hun hret
  have S' := S
  obtain ⟨inst, ⟨t1, t2, t3, t4, tp, tf, attr⟩, ⟨o, dict, hD⟩, info, idic, succ, nd, rng, lo, ap, out⟩ := S'
  refine wpAny_call ?_
  k_dflt (refine' code_defU ?k1 ?k2 ?k3 ?k4 ?k6 ?k7 ?k8 ?k9 ?kB ?_ ?c2 ?c3 ?c4 ?c5; (case k1 => k_asm); (case k2 => k_asm); (case k3 => k_asm); (case k4 => k_asm); (case k6 => k_is); (case k7 => k_is); (case k8 => ktr_room); (case k9 => exact BindsTo.of_eq rfl); (case c5 => decide); (case kB => exact locs rfl); (case c2 => exact rfl); (case c3 => exact rfl); (case c4 => exact rfl); k_whole; intro oL L' h' C' hne' F' N'; (try dsimp only); (try k_fold))
  k_steps
  rename News _ _ _ ((_, _) :: (_, _) :: (_, _) :: (_, _) :: (_, _) :: _) => N1
  rename Fr _ L' _ _ => F1
  rename TI.Caller _ _ _ _ => C1
  rename_i st _ l1st _ _ it _ l1it _ se _ led hs1 _ l1se _ nd _ oD loN _ _ hi1 _ l1nd h1
  obtain ⟨m9, F9⟩ : ∃ m9 : Str → Option Value, Fr h₀ L' h1 (fun y => if y = Str.ofString "node2stacki" then some (.ref nd) else if y = Str.ofString "seen" then some (.ref se) else if y = Str.ofString "itstack" then some (.ref it) else if y = Str.ofString "stack" then some (.ref st) else if y = Str.ofString "n2i" then some (.ref g.n2) else m9 y) := ⟨_, F1⟩
  clear F1
  refine Stop.in ?_
  have lX := kst_ltOf l1st.2
  have ok : FaOk X ((L, oL) :: frs) ⟨st, it, se, nd⟩ := by
    have g1 : st < it := l1it.1
    have g2 : it < se := l1se.1
    have g3 : se < nd := l1nd.1
    have low : ∀ b : Addr, b < st → b ≠ st ∧ b ≠ it ∧ b ≠ se ∧ b ≠ nd := fun b h => ⟨Nat.ne_of_lt h, Nat.ne_of_lt (Nat.lt_trans h g1), Nat.ne_of_lt (Nat.lt_trans h (Nat.lt_trans g1 g2)), Nat.ne_of_lt (Nat.lt_trans h (Nat.lt_trans g1 (Nat.lt_trans g2 g3)))⟩
    refine ⟨Nat.ne_of_lt g1, Nat.ne_of_lt (Nat.lt_trans g1 g2), Nat.ne_of_lt (Nat.lt_trans g1 (Nat.lt_trans g2 g3)), Nat.ne_of_lt g2, Nat.ne_of_lt (Nat.lt_trans g2 g3), Nat.ne_of_lt g3, fun q hq => low _ (lX q hq), fun q hq => ?_⟩
    rcases List.mem_cons.mp hq with rfl | hq
    · exact low _ l1st.1
    · exact low _ (lX q (hfr q hq))
  have outF : ∀ b, At g b → b ∉ ((L, oL) :: frs).map (·.1) := fun b hb hm => by
    rw [List.map_cons] at hm
    rcases List.mem_cons.mp hm with e | hm
    · obtain ⟨o', ho'⟩ := At.mem S hb
      exact hne' _ ho' e
    · exact hap b hb hm
  k_dflt (refine' iter_keys (fun i m' X' => Ag ["node"] m' (fun y => if y = Str.ofString "node2stacki" then some (.ref nd) else if y = Str.ofString "seen" then some (.ref se) else if y = Str.ofString "itstack" then some (.ref it) else if y = Str.ofString "stack" then some (.ref st) else if y = Str.ofString "n2i" then some (.ref g.n2) else m9 y) ∧ ∃ P, Fc w X g ((L, oL) :: frs) ⟨st, it, se, nd⟩ [] P X') rfl ?F ?N ?m ?d ?l ?j ?t ?e; (case F => exact F9); (case N => exact N1); (case m => k_mem); (case d => exact hD); (case l => exact lo))
  case j =>
    refine ⟨.refl, fun _ => false, fun q hq _ => .tail _ (.tail _ (.tail _ (.tail _ (.tail _ hq)))), ⟨_, TI.SameUp.refl _, fun q hq => ?_⟩, ⟨[], 0, .tail _ (.tail _ (.tail _ (.head _))), .nil⟩, ⟨0, .tail _ (.tail _ (.head _))⟩, ⟨_, 0, .tail _ (.head _), hs1, Nat.zero_le _⟩, ⟨_, [], .head _, hi1, rfl⟩, (fun _ h => nomatch h), (fun _ h => nomatch h), (fun _ h => nomatch h), .nil, .nil, (fun _ h => nomatch h)⟩
    rcases List.mem_cons.mp hq with rfl | hq
    · exact .tail _ (.tail _ (.tail _ (.tail _ (.head _))))
    · exact .tail _ (.tail _ (.tail _ (.tail _ (.tail _ (hfr q hq)))))
  case e =>
    rintro m₁ X₁ h2 tk2 ⟨hAg, P, fc⟩ F2 N2
    (try dsimp only)
    k_steps
    obtain ⟨fr', SU, hin⟩ := fc.frs
    cases fr' with
    | nil => exact SU.elim
    | cons q qs =>
      obtain ⟨e1, ⟨sl, e2⟩, SU2⟩ := SU
      have hL2 : h2.get? L = some { oL with slots := sl } := by
        have := (N2 q (hin q (.head _))).1
        rw [e1, e2] at this
        exact this
      show Q .none _
      refine hret _ (off L X₁) qs _ _ ⟨C1.ns _ sl hL2, F2.keep, C1.above⟩ (fun p hp => ⟨(N2 p (of_off hp)).1, off_ne p hp, (N2 p (of_off hp)).2.2⟩) SU2 (fun p hp => mem_off (hin p (.tail _ hp)) ?_) ⟨rfl, fun p hp hn => mem_off (fc.old p hp ?_) (hne' p hp)⟩
      · obtain ⟨p', hp', e'⟩ := SU2.fwd p hp
        rw [e']
        exact hne' p' (hfr p' hp')
      · intro hm
        rw [List.map_cons] at hm
        rcases List.mem_cons.mp hm with e | hm
        · exact hne' p hp e
        · exact hn hm
  case t =>
    rintro i k t m₁ X₁ h2 tk2 I io lI hkk ⟨hAg, P, fc⟩ hI hd1 F2 N2
    rw [mapN_of hAg] at F2
    obtain ⟨oS, nS, hse, hS, hnS⟩ := fc.set
    dsimp only at hse
    have hnS6 : nS ≤ 6 := Nat.le_trans hnS (Nat.le_trans (List.length_filter_le _ _) S.len)
    have ok' : FaOk ((I, io) :: X) ((L, oL) :: frs) ⟨st, it, se, nd⟩ := ok.cons ⟨Nat.ne_of_gt (lI _ (.tail _ (.tail _ (.tail _ (.head _))))), Nat.ne_of_gt (lI _ (.tail _ (.tail _ (.head _)))), Nat.ne_of_gt (lI _ (.tail _ (.head _))), Nat.ne_of_gt (lI _ (.head _))⟩
    have iX : ∀ q ∈ X, q.1 ≠ I := fun q hq => Nat.ne_of_lt (lI _ (.tail _ (.tail _ (.tail _ (.tail _ (.tail _ hq))))))
    have iF : ∀ q ∈ (L, oL) :: frs, q.1 ≠ I := fun q hq => by
      rcases List.mem_cons.mp hq with rfl | hq
      · exact Nat.ne_of_lt (lI (L, oL) (.tail _ (.tail _ (.tail _ (.tail _ (.head _))))))
      · exact iX q (hfr q hq)
    clear N1 F9 N F
    k_steps
    · rename Fr _ _ _ _ => F5
      refine MyTurn.cont F5 N2 (.head _) (fun q hq => ?_) ⟨.ofN, P, (fc.grow (q := (I, io))).shrink ok' iX iF⟩
      rw [List.mem_singleton.mp hq]; exact .tail _ hd1
    refine Stop.in ?_
    have fc' : Fc w ((I, io) :: X) g ((L, oL) :: frs) ⟨st, it, se, nd⟩ [] P ((I, io) :: X₁) := fc.grow
    rename News _ _ _ _ => N5
    rename Fr _ _ _ _ => F5
    rename P k = false => hPk
    k_dflt (refine' While_J (fun n m' Y => ∃ v t lv P, m' = mapN (fun y => if y = Str.ofString "node2stacki" then some (.ref nd) else if y = Str.ofString "seen" then some (.ref se) else if y = Str.ofString "itstack" then some (.ref it) else if y = Str.ofString "stack" then some (.ref st) else if y = Str.ofString "n2i" then some (.ref g.n2) else m9 y) v t ∧ v ∈ g.ks ∧ (∀ l ∈ lv, l.k < v) ∧ (∀ l ∈ lv, l.fin = false) ∧ Fc w ((I, io) :: X) g ((L, oL) :: frs) ⟨st, it, se, nd⟩ lv P Y ∧ n = mu su g.ks lv P) _ F5 N5 ⟨k, t, [], P, rfl, ?i1, ?i2, ?i3, fc', rfl⟩ ?tr)
    case i1 => simpa using hkk
    case i2 => intro l hl; cases hl
    case i3 => intro l hl; cases hl
    case tr =>
      clear hse hS fc fc' F5 N5 hPk hI hd1 hnS hnS6
      rintro n m₂ Y h₃ tk₃ F3 N3 ⟨v, t', lv, P', rfl, hv, hlt, hfin, fc, rfl⟩
      have memX : ∀ q ∈ X, At g q.1 → q ∈ Y ∧ q.1 ≠ st ∧ q.1 ≠ it ∧ q.1 ≠ se ∧ q.1 ≠ nd := fun q hq ha => ⟨fc.old q (.tail _ hq) (outF _ ha), ok.x q hq⟩
      obtain ⟨hn2, a1, a2, a3, a4⟩ := memX _ dict .n2
      obtain ⟨w1, w2, hinf⟩ := info v hv
      obtain ⟨hinf, b1, b2, b3, b4⟩ := memX _ hinf (.ia hv)
      obtain ⟨hja, c1, c2, c3, c4⟩ := memX _ (idic v hv) (.ja hv)
      obtain ⟨ws, nw, hla, hIw⟩ := succ v hv
      obtain ⟨hla, d1, d2, d3, d4⟩ := memX _ hla (.la hv)
      dsimp only at a1 a2 a3 a4 b1 b2 b3 b4 c1 c2 c3 c4 d1 d2 d3 d4
      have hval := valueAt_in (ia := g.ia) hv
      have ok1 : st ≠ it := ok.ti
      have ok2 : st ≠ se := ok.ts
      have ok3 : st ≠ nd := ok.tn
      have ok4 : it ≠ se := ok.is
      have ok5 : it ≠ nd := ok.inn
      have ok6 : se ≠ nd := ok.sn
      obtain ⟨oS', nS', hse, hS, hnS⟩ := fc.set
      obtain ⟨oD', kvs, hnd, hDk, hkv⟩ := fc.dic
      dsimp only at hse hnd
      have hlv := fc.len rng
      have hnS' : nS' ≤ 6 := Nat.le_trans hnS (Nat.le_trans (List.length_filter_le _ _) S.len)
      have hvN : (valueAt kvs v).isSome = false := by rw [valueAt_none (by rw [hkv]; exact not_on hlt)]; rfl
      by_cases hP : P' v = true
      case' pos =>
        k_steps
        rename Fr _ _ _ _ => F6
        rename News _ _ _ _ => N6
        obtain ⟨Y2, N8, lv2, P2, hf2, fc2, hmu⟩ : ∃ Y2, News _ _ _ Y2 ∧ ∃ lv2 P2, (∀ l ∈ lv2, l.fin = false) ∧ Fc w ((I, io) :: X) g ((L, oL) :: frs) ⟨st, it, se, nd⟩ lv2 P2 Y2 ∧ mu su g.ks lv2 P2 ≤ mu su g.ks lv P' := ⟨Y, N6, lv, P', hfin, fc, Nat.le_refl _⟩
        clear N6
      case' neg =>
        obtain ⟨vs, nst, hst, hI⟩ := fc.stk
        obtain ⟨nit, hit⟩ := fc.its
        dsimp only at hst hit
        have hz1 : (lv.map fun l => Value.ref l.mw).length ≤ 6 := by rw [List.length_map]; exact hlv
        have hz2 : vs.length ≤ 6 := by rw [hI.length, List.length_map]; exact hlv
        have hz3 : kvs.length ≤ 6 := by rw [← List.length_map (f := (·.1)), hkv, List.length_map]; exact hlv
        k_steps
        rename Obj.SetObjOf _ _ _ _ => hS2
        rename Obj.IsDictOf _ _ (stored _ _ _) => hD2
        rename IntsAre vs _ => hI
        rename News _ _ _ _ => N6
        rename Fr _ _ _ _ => F6
        rename (∀ p ∈ (_, iterO _ _) :: _, p.1 < _) => lM
        rename (∀ p ∈ (_, _) :: off _ _, p.1 < _) => lI2
        obtain ⟨Y2, N8, lv2, P2, hf2, fc2, hmu⟩ : ∃ Y2, News _ _ _ Y2 ∧ ∃ lv2 P2, (∀ l ∈ lv2, l.fin = false) ∧ Fc w ((I, io) :: X) g ((L, oL) :: frs) ⟨st, it, se, nd⟩ lv2 P2 Y2 ∧ mu su g.ks lv2 P2 ≤ mu su g.ks lv P' := ⟨_, N6, push_step fc ok' hv hP hlt hfin hI hst hit hnd lI2 lM hS2 hnS hD2 hkv⟩
        clear N6 hD2 lM lI2 hS2
      all_goals
        refine Stop.in ?_
        k_dflt (refine' While_J (fun n m' Y => ∃ lv' P, m' = mapN (fun y => if y = Str.ofString "node2stacki" then some (.ref nd) else if y = Str.ofString "seen" then some (.ref se) else if y = Str.ofString "itstack" then some (.ref it) else if y = Str.ofString "stack" then some (.ref st) else if y = Str.ofString "n2i" then some (.ref g.n2) else m9 y) v t' ∧ (∀ l ∈ lv', l.fin = false) ∧ Fc w ((I, io) :: X) g ((L, oL) :: frs) ⟨st, it, se, nd⟩ lv' P Y ∧ n = mu su g.ks lv' P ∧ mu su g.ks lv' P ≤ mu su g.ks lv P') _ F6 N8 ⟨lv2, P2, rfl, hf2, fc2, rfl, hmu⟩ ?_)
        clear N8 F6 fc2 hf2 hmu hS hDk hnS hse hnd hvN hkv
        rintro n m₃ Y3 h4 tk4 F4 N4 ⟨lv3, P3, rfl, hf3, fc3, rfl, hm3⟩
        obtain ⟨vs3, nst3, hst3, hI3⟩ := fc3.stk
        obtain ⟨nit3, hit3⟩ := fc3.its
        dsimp only at hst3 hit3
        rcases snoc_cases lv3 with rfl | ⟨lv4, l, rfl⟩
        · obtain rfl : vs3 = [] := by cases hI3; rfl
          clear fc
          k_steps
          (try dsimp only [WStep])
          k_steps
          rename Fr _ _ _ _ => F5
          refine MyTurn.next F5 N4 (fc3.old _ (.head _) fun hm => ?_) (fun q hq => ?_) ⟨.ofN, P3, fc3.shrink ok' iX iF⟩
          · obtain ⟨q, hq, e⟩ := List.mem_map.mp hm
            exact iF q hq e
          · rw [List.mem_singleton.mp hq]; exact fc3.old _ (.tail _ dict) (outF _ .n2)
        · have hlv3 := fc3.len rng
          rw [List.map_append] at hI3
          obtain ⟨vs4, t4, rfl, hI4⟩ := ints_snoc_inv hI3
          have hz4 : vs4.length ≤ 6 := by rw [hI4.length, List.length_map]; rw [List.length_append] at hlv3; omega
          rw [List.map_append] at hit3
          k_steps
          refine Stop.in ?_
          refine wpAny_Try_except ?_
          k_steps
          have hlm : l ∈ lv4 ++ [l] := List.mem_append_right _ (.head _)
          obtain ⟨hlk, hlP⟩ := fc3.mem l hlm
          have hwr := fc3.wr l hlm
          have hitr := fc3.itr l hlm (hf3 l hlm)
          obtain ⟨wl, nwl, hwl, hIwl⟩ := succ l.k hlk
          have hwl3 : (g.la l.k, listO wl nwl) ∈ Y3 := fc3.old _ (.tail _ hwl) (outF _ (.la hlk))
          k_dflt (refine' callWith_mw ?N ?u ?_; (case N => k_asm); (case u => exact hwr))
          by_cases hp : l.pos < wl.length
          · have hx : wl[l.pos]? = some wl[l.pos] := List.getElem?_eq_getElem hp
            obtain ⟨u, tu, eu, hu⟩ := IntsAre.at hIwl _ _ hx
            rw [eu] at hx
            k_dflt (refine' mw_item ?F ?N hwr hitr hwl3 hx ?_; (case F => k_asm); (case N => k_asm))
            intro h7 F7 N7
            (try dsimp only)
            k_steps
            (try dsimp only [WStep])
            k_steps
            rename Fr _ _ _ _ => F9
            rename News _ _ _ _ => N9
            rw [mapN_set] at F9
            obtain ⟨hu1, hu2⟩ := hsu l.k hlk u (List.mem_of_getElem? hu)
            refine WStep.next F9 N9 (Nat.lt_of_lt_of_le (mu_next (b := false) (by rw [← hIwl.length]; exact hp)) hm3) ⟨u, tu, lv4 ++ [{ l with pos := l.pos + 1, fin := false }], P3, rfl, hu1, ?_, ?_, fc3.top N4 (hf3 l hlm) (fun q hq hn => .tail _ (mem_off hq hn)) (fun _ => .head _), rfl⟩
            · intro l' hl'
              rcases List.mem_append.mp hl' with h | h
              · exact Int.lt_trans (inc_last fc3.inc h) hu2
              · rw [List.mem_singleton.mp h]; exact hu2
            · intro l' hl'
              rcases List.mem_append.mp hl' with h | h
              · exact hf3 l' (List.mem_append_left _ h)
              · rw [List.mem_singleton.mp h]
          · have hx : wl[l.pos]? = none := List.getElem?_eq_none_iff.mpr (Nat.le_of_not_lt hp)
            k_dflt (refine' mw_end rfl ?F ?N hwr hitr hwl3 hx ?_; (case F => k_asm); (case N => k_asm))
            intro h7 h7' e7 o7 hx7 F7 N7
            obtain ⟨fr', SU, hin⟩ := fc3.frs
            have hfr7 : ∀ q ∈ fr', q ∈ (l.ia, o7) :: off l.ia Y3 := fun q hq => .tail _ (mem_off (hin q hq) fun e => by
              obtain ⟨p', hp', e'⟩ := SU.fwd q hq
              exact (fc3.low l hlm).1 (.inr (.inr (.inr (.inr (.inr ⟨p', hp', e'.symm.trans e⟩))))))
            have Fs0 : TI.Frs (envX cn cs L a ccd cl :: outer) ((L, oL) :: frs) := ⟨by show cs.kind ≠ .module; rw [hk]; decide, rfl, C1.dict, Fs⟩
            have Fs' : TI.Frs (envX cn cs L a ccd cl :: outer) fr' := Fs0.up SU
            k_dflt (refine' caught_stop rfl Fs' hx7 F7 N7 hfr7 KX T ?ex ?_; (case ex => k_is))
            intro h8 fr2 SU2 Fs2 F8 N8
            have fc5 := (fc3.top (Y' := (l.ia, o7) :: off l.ia Y3) (p := l.pos) (b := true) N4 (hf3 l hlm) (fun q hq hn => .tail _ (mem_off hq hn)) (fun h => nomatch h)).noted ok' SU SU2
            obtain ⟨vs5, nst5, hst5, hI5⟩ := fc5.stk
            obtain ⟨nit5, hit5⟩ := fc5.its
            obtain ⟨oD5, kvs5, hnd5, hDk5, hkv5⟩ := fc5.dic
            rw [List.map_append] at hI5 hkv5 hit5
            obtain ⟨vs6, t6, rfl, hI6⟩ := ints_snoc_inv hI5
            (try dsimp only [List.map_cons, List.map_nil] at hst5)
            (try dsimp only [List.map_cons, List.map_nil] at hit5)
            (try dsimp only [List.map_cons, List.map_nil] at hnd5)
            (try dsimp only [List.map_cons, List.map_nil] at hkv5)
            have hz5 : vs6.length ≤ 6 := by rw [hI6.length, List.length_map]; rw [List.length_append] at hlv3; omega
            have hz6 : (lv4.map fun l => Value.ref l.mw).length ≤ 6 := by rw [List.length_map]; rw [List.length_append] at hlv3; omega
            have hz7 : kvs5.length ≤ 7 := by rw [← List.length_map (f := (·.1)), hkv5, List.length_append, List.length_map]; rw [List.length_append] at hlv3; simp at hlv3 ⊢; omega
            have hv5 : (valueAt kvs5 l.k).isSome = true := valueAt_some (by rw [hkv5]; simp)
            clear N4 F4 N7 F7
            k_steps
            rename Fr _ _ _ _ => F9
            rename News _ _ _ _ => N9
            rename Obj.IsDictOf _ _ (without _ _) => hD9
            rename IntsAre vs6 _ => hI6
            refine WStep.next F9 N9 mu_pop ⟨lv4, P3, rfl, fun l' h => hf3 l' (List.mem_append_left _ h), fc5.pop ok' (fun q hq e1 e2 e3 => .tail _ (mem_off (.tail _ (mem_off (.tail _ (mem_off hq e1)) e3)) e2)) (.tail _ (mem_off (.tail _ (mem_off (.head _) ok3)) ok1)) hI6 (.head _) (.tail _ (mem_off (.head _) ok5.symm)) hD9 (without_last hkv5 fun hm => ?_), rfl, Nat.le_trans (Nat.le_of_lt mu_pop) hm3⟩
            obtain ⟨l', hl', e'⟩ := List.mem_map.mp hm
            have := inc_last fc3.inc hl'
            have e' : l'.k = l.k := e'
            omega
end
theorem anew3 : (0 : Nat) = 0 := by
  first | walk1 | rfl
section
local macro_rules | `(tactic| walk_at "call ref") => `(tactic| ((with_reducible show wpAny _ _ (call (Value.ref 134) _) _ _ _); refine Stop.out ?_))
theorem any_ia {g : Sg} {np : Int → Int} (ap : Apart g) {j : Int} (hj : j ∈ g.ks) : (g.ks.any fun k => decide (Value.ref (g.ia j) = .ref (g.ia k)) && decide (np k = 0)) = decide (np j = 0) := by
  by_cases e : np j = 0
  · rw [decide_eq_true e, List.any_eq_true]
    exact ⟨j, hj, by simp [e]⟩
  · rw [decide_eq_false e, List.any_eq_false]
    intro k hk
    by_cases e2 : g.ia j = g.ia k
    · have := ap.ii j hj k hk e2
      subst this
      simp [e]
    · simp [e2]
theorem paired_ints {g : Sg} {P : Value → Bool} {c : Int → Bool} (ap : Apart g) : ∀ {ks : List Int} {ys : List Value}, (∀ k ∈ ks, k ∈ g.ks) → (∀ k ∈ ks, P (.ref (g.ia k)) = c k) → Paired (fun v y => ∃ k ∈ g.ks, ∃ t, v = Value.ref (g.ia k) ∧ y = .int k t) (((ks.map fun k => (k, Value.ref (g.ia k))).map (·.2)).filter P) ys → IntsAre ys (ks.filter c) := by
  intro ks
  induction ks with
  | nil => intro ys _ _ h; cases h; exact .nil
  | cons k ks ih =>
    intro ys hin hP h
    have hk := hP k (.head _)
    rw [List.map_cons, List.map_cons] at h
    cases hc : c k with
    | true =>
      rw [List.filter_cons_of_pos (by rw [hk, hc])] at h
      rw [List.filter_cons_of_pos hc]
      cases h with
      | cons hx hr =>
        obtain ⟨k', hk', t, e1, rfl⟩ := hx
        have e1 : g.ia k = g.ia k' := by injection e1
        have := ap.ii k (hin k (.head _)) k' hk' e1
        subst this
        exact .cons _ _ (ih (fun x hx => hin x (.tail _ hx)) (fun x hx => hP x (.tail _ hx)) hr)
    | false =>
      rw [List.filter_cons_of_neg (by rw [hk, hc]; decide)] at h
      rw [List.filter_cons_of_neg (by rw [hc]; decide)]
      exact ih (fun x hx => hin x (.tail _ hx)) (fun x hx => hP x (.tail _ hx)) h
theorem prepare_spec {w : World} {X : List (Addr × Obj)} {g : Sg} {np : Int → Int} {su : Int → List Int} {p f : Int} (S : Srt w X g np su .none p f) {outer : List Env} {frs : List (Addr × Obj)} (Fs : TI.Frs outer frs) (hfr : ∀ q ∈ frs, q ∈ X) (hap : ∀ b, At g b → b ∉ frs.map (·.1)) (hsu : ∀ k ∈ g.ks, ∀ j ∈ su k, j ∈ g.ks ∧ k < j) :
    SpecU 2 w 99 [.ref g.sx] X outer frs (fun r X' frs' => r = .none ∧ ∃ D ys n, (∀ q ∈ X, q.1 ≠ D) ∧ ¬ At g D ∧ (D, listO ys n) ∈ X' ∧ IntsAre ys (g.ks.filter fun k => decide (np k = 0)) ∧ Srt w X' g np su (.ref D) p f ∧ ∀ q ∈ X, ¬ At g q.1 → q.1 ∉ frs.map (·.1) → q ∈ X') := by
  unfold SpecU
  k_fill
  intro loose mean mg mb dp un gd cn cs a ccd cl h₀ L m s Q E F KX N T hk hdp hun hret
  have S' := S
  have hlen : (g.ks.map fun k => (k, Value.ref (g.ia k))).length ≤ 1000 := by have := S.len; rw [List.length_map]; omega
  obtain ⟨inst, ⟨t1, t2, t3, t4, tp, tf, attr⟩, ⟨o, dict, hD⟩, info, idic, succ, nd, rng, lo, ap, out⟩ := S'
  have n1 := ap.sd
  refine wpAny_call ?_
  k_dflt (refine' code_defU ?k1 ?k2 ?k3 ?k4 ?k6 ?k7 ?k8 ?k9 ?kB ?_ ?c2 ?c3 ?c4 ?c5; (case k1 => k_asm); (case k2 => k_asm); (case k3 => k_asm); (case k4 => k_asm); (case k6 => k_is); (case k7 => k_is); (case k8 => ktr_room); (case k9 => exact BindsTo.of_eq rfl); (case c5 => decide); (case kB => exact locs rfl); (case c2 => exact rfl); (case c3 => exact rfl); (case c4 => exact rfl); k_whole; intro oL L' h' C' hne' F' N'; (try dsimp only); (try k_fold))
  k_steps
  k_dflt (refine' comp_vals (fun v => g.ks.any fun k => decide (v = .ref (g.ia k)) && decide (np k = 0)) (fun v y => ∃ k ∈ g.ks, ∃ t, v = .ref (g.ia k) ∧ y = .int k t) rfl ?F ?N ?V ?m ?D ?z ?t ?e ?d; (case F => k_asm); (case N => k_asm); (case V => k_mem); (case m => k_mem); (case D => assumption); (case z => assumption))
  case t =>
    intro C i k v s₃ m₃ E' hkv hns hmx F3 N3
    refine wpAny_tests_one ?_
    obtain ⟨j, hj, e⟩ := List.mem_map.mp (List.mem_of_getElem? hkv)
    obtain ⟨rfl, rfl⟩ := Prod.mk.inj e
    obtain ⟨u1, u2, hInf⟩ := info j hj
    have hJ := idic j hj
    k_steps
    · rw [any_ia ap hj]; rfl
    · exact ⟨_, _, rfl, fun _ _ e => e⟩
  case e =>
    intro C i k v s₃ m₃ E' hkv hpv hns hmx F3 N3
    obtain ⟨j, hj, e⟩ := List.mem_map.mp (List.mem_of_getElem? hkv)
    obtain ⟨rfl, rfl⟩ := Prod.mk.inj e
    obtain ⟨u1, u2, hInf⟩ := info j hj
    have hJ := idic j hj
    k_steps
    · exact hj
    · exact ⟨_, _, rfl, fun _ _ e => e⟩
  case d =>
    intro D h3 tk3 ys k F3 N3 lD hP
    (try dsimp only)
    k_steps
    rename News _ _ _ ((g.dx, _) :: _) => N9
    have nD : D ≠ g.dx := fun e => lD _ (.tail _ (.tail _ attr)) e.symm
    obtain ⟨X9, N10, S9, hD9, hL9, up9⟩ : ∃ X9, News _ _ _ X9 ∧ Srt w X9 g np su (.ref D) p f ∧ (D, listO ys k) ∈ X9 ∧ (L, oL) ∈ X9 ∧ ∀ q ∈ X, q.1 ≠ g.dx → q ∈ X9 :=
      ⟨_, N9, S.setAttr (.head _) fun q hq hn => .tail _ (mem_off (.tail _ (.tail _ (.tail _ hq))) hn), .tail _ (mem_off (.head _) nD), .tail _ (mem_off (.tail _ (.tail _ (.head _))) fun e => hne' _ attr e.symm), fun q hq hn => .tail _ (mem_off (.tail _ (.tail _ (.tail _ hq))) hn)⟩
    clear N9
    have hys := paired_ints (c := fun k => decide (np k = 0)) ap (fun k h => h) (fun k h => any_ia ap h) hP
    have Fs9 : TI.Frs (envX cn cs L a ccd cl :: outer) ((L, oL) :: frs) := ⟨by show cs.kind ≠ .module; rw [hk]; decide, rfl, C'.dict, Fs⟩
    have outF : ∀ b, At g b → b ∉ ((L, oL) :: frs).map (·.1) := fun b hb hm => by
      rw [List.map_cons] at hm
      rcases List.mem_cons.mp hm with e | hm
      · obtain ⟨o', ho'⟩ := At.mem S hb
        exact hne' _ ho' e
      · exact hap b hb hm
    have atD : ∀ q ∈ frs, q.1 ≠ g.dx := fun q hq e => hap _ .dx (e ▸ List.mem_map_of_mem hq)
    have hnD : ¬ At g D := fun hb => by
      obtain ⟨o', ho'⟩ := At.mem S hb
      exact lD _ (.tail _ (.tail _ ho')) rfl
    have Cx := find_cycle_spec S9 Fs9 (fun q hq => by
      rcases List.mem_cons.mp hq with rfl | hq
      · exact hL9
      · exact up9 q (hfr q hq) (atD q hq)) outF hsu
    refine Stop.in ?_
    k_dflt (refine' SpecU.use Cx ?F ?K ?N ?T ?hk ?d ?u ?_; (case F => k_asm); (case K => k_asm); (case N => k_asm); (case T => k_asm); (case hk => exact rfl); (case d => first | omega | ((try simp only [depth_under_make, depth_under_kw, depth_in1, depth_deeper, depth_caller]); (try dsimp only [ktrTop]); omega)); (case u => first | omega | ((try simp only [units_in1, units_deeper, Around.mark_units, units_caller]); (try dsimp only [ktrTop]); omega)))
    rintro r X' fr' h' tk' F' N' SU hin ⟨rfl, up'⟩
    (try dsimp only)
    k_steps
    rename TI.Caller _ _ _ _ => C1
    cases fr' with
    | nil => exact SU.elim
    | cons q qs =>
      obtain ⟨e1, ⟨sl, e2⟩, SU2⟩ := SU
      rename News _ _ _ _ => N2
      rename Fr _ _ _ _ => F2
      have hL2 := (N2 q (hin q (.head _))).1
      rw [e1, e2] at hL2
      have upX : ∀ p ∈ X, p.1 ≠ g.dx → p.1 ∉ frs.map (·.1) → p ∈ off L X' := fun p hp hn hf => mem_off (up' p (up9 p hp hn) fun hm => by
        rw [List.map_cons] at hm
        rcases List.mem_cons.mp hm with e | hm
        · exact hne' p hp e
        · exact hf hm) (hne' p hp)
      have neL : ∀ b, At g b → b ≠ L := fun b hb e => by
        obtain ⟨o', ho'⟩ := At.mem S hb
        exact hne' _ ho' e
      show Q .none _
      refine hret _ (off L X') qs _ _ ⟨C1.ns _ sl hL2, F2.keep, C1.above⟩ (fun p hp => ⟨(N2 p (of_off hp)).1, off_ne p hp, (N2 p (of_off hp)).2.2⟩) SU2 (fun p hp => mem_off (hin p (.tail _ hp)) ?_) ⟨rfl, D, ys, k, fun q hq => lD _ (.tail _ (.tail _ hq)), hnD, ?_, hys, S9.still fun p hp ha => mem_off (up' p hp (outF _ ha)) (neL _ ha), fun p hp ha hf => upX p hp (fun e => ha (e ▸ .dx)) hf⟩
      · obtain ⟨p', hp', e'⟩ := SU2.fwd p hp
        rw [e']
        exact hne' p' (hfr p' hp')
      · refine mem_off (up' _ hD9 fun hm => ?_) fun e => ?_
        · rw [List.map_cons] at hm
          rcases List.mem_cons.mp hm with e | hm
          · exact lD _ (.tail _ (.head _)) e.symm
          · obtain ⟨p', hp', e'⟩ := List.mem_map.mp hm
            exact lD _ (.tail _ (.tail _ (hfr p' hp'))) e'
        · exact lD _ (.tail _ (.head _)) e.symm
end
theorem anew4 : (0 : Nat) = 0 := by
  first | walk1 | rfl
section
local macro_rules | `(tactic| walk_at "exec For") => `(tactic| (k_here; (rename Fr _ _ _ _ => lF'); (with_unfolding_all refine' For_invVF lF' ?k1 ?k2 ?_; (case k1 => exact rfl); (case k2 => exact rfl); k_whole)))
theorem gen_crc_spec {w : World} {X : List (Addr × Obj)} {n : Nat} {t : Tok} (hn2 : n < 2 ^ 32) :
    Spec 1 w 28 [.int n t] X (fun r X' => (∃ t', r = .int (crcN 8 n : Nat) t') ∧ ∀ q ∈ X, q ∈ X') := by
  unfold Spec
  k_fill
  intro loose mean mg mb dp un gd cn cs a ccd cl outer A₀ base h₀ L m s Q E B F KX N T hk hdp hun hret
  refine wpAny_call ?_
  k_dflt ktr_enter
  k_steps
  rename IsRange _ _ _ _ _ _ _ _ => hR
  refine Stop.in ?_
  k_dflt (refine' iter_rng (n := 8) (fun i m' X' => (∃ (t' : Tok) (mm : Str → Option Value), m' = fun y => if y = Str.ofString "crc" then some (.int ((crcN i n : Nat) : Int) t') else mm y) ∧ ∀ q ∈ X, q ∈ X') rfl hR rfl rfl ?F ?N ?j ?t ?d; (case F => k_asm); (case N => k_asm))
  case j =>
    exact ⟨⟨t, _, map_at rfl⟩, fun q h => h⟩
  case d =>
    rintro m₁ X₁ h1 tk1 ⟨⟨t', mm, rfl⟩, up⟩ F1 N1
    (try dsimp only)
    k_steps
    exact hret _ _ _ _ (by assumption) (by assumption) ⟨⟨_, rfl⟩, up⟩
  case t =>
    rintro i t' m₁ X₁ h1 tk1 I io hi lI ⟨⟨t'', mm, rfl⟩, up⟩ hI F1 N1
    have hc := crcN_lt hn2 i
    generalize hcc : crcN i n = c at F1
    k_steps
    all_goals (rename Fr _ _ _ _ => F9; rename News _ _ _ _ => N9)
    · rename Builtin.bitAnd _ _ ≠ 0 => hb
      rw [crc_odd hb] at F9
      exact MyTurn.next F9 N9 (.head _) (fun q h => nomatch h) ⟨⟨_, _, by rw [show crcN (i + 1) n = crcS (crcN i n) from rfl, hcc]⟩, fun q hq => mem_off (.tail _ (up q hq)) (hI q (up q hq))⟩
    · rename Builtin.bitAnd _ _ = 0 => hb
      rw [crc_even hb] at F9
      exact MyTurn.next F9 N9 (.head _) (fun q h => nomatch h) ⟨⟨_, _, by rw [show crcN (i + 1) n = crcS (crcN i n) from rfl, hcc]⟩, fun q hq => mem_off (.tail _ (up q hq)) (hI q (up q hq))⟩
end
theorem anew5 : (0 : Nat) = 0 := by
  first | walk1 | rfl
section
local macro_rules | `(tactic| walk_at $s:str) => if ["eval ListComp", "CompSrc", "FinE", "EltEnd", "binaryOp LShift int int"].contains s.getString then `(tactic| (refine Stop.out ?_)) else Lean.Macro.throwUnsupported
theorem bit_nat (n i : Nat) : Builtin.bitAnd ((n : Int).fdiv (2 ^ ((0 : Int) + (i : Int)).toNat)) 1 = ((n >>> i % 2 : Nat) : Int) := by
  rw [bitAnd_m1, Int.fdiv_eq_ediv_of_nonneg _ (Int.le_of_lt (Int.pow_pos (by decide))), Nat.shiftRight_eq_div_pow]
  have : ((0 : Int) + (i : Int)).toNat = i := by omega
  rw [this]
  rfl
theorem bit_small (x : Int) : (Builtin.bitAnd x 1).natAbs < 2 ^ 64 := by
  rw [bitAnd_m1]; omega
theorem turned_elt {n i : Nat} (hi : i < 32) : Builtin.bitAnd ((n : Int).fdiv (2 ^ ((0 : Int) + (i : Int)).toNat)) 1 * 2 ^ ((31 : Int) - ((0 : Int) + (i : Int))).toNat = (((n >>> i % 2) <<< (31 - i) : Nat) : Int) := by
  rw [bit_nat, Nat.shiftLeft_eq]
  have : ((31 : Int) - ((0 : Int) + (i : Int))).toNat = 31 - i := by omega
  rw [this, Int.natCast_mul, Int.natCast_pow]
  rfl
theorem trn_sum_aux (n : Nat) : ∀ k, k ≤ 32 → trnN k n % 2 ^ (32 - k) = 0 ∧ (((List.range k).map fun i => (((n >>> i % 2) <<< (31 - i) : Nat) : Int)).sum = ((trnN k n : Nat) : Int))
  | 0, _ => ⟨by simp [trnN], by simp [trnN]⟩
  | k + 1, h => by
    obtain ⟨h1, h2⟩ := trn_sum_aux n k (by omega)
    have e1 : 32 - k = (31 - k) + 1 := by omega
    have e2 : 32 - (k + 1) = 31 - k := by omega
    have hx : trnN (k + 1) n = trnN k n + (n >>> k % 2) <<< (31 - k) := by
      show trnN k n ^^^ ((n >>> k % 2) <<< (31 - k)) = _
      have ha := add_xor (trnN k n) (trnN k n) ((n >>> k % 2) <<< (31 - k)) (Nat.le_refl _)
      have hz : trnN k n &&& ((n >>> k % 2) <<< (31 - k)) = 0 := by
        apply Nat.eq_of_testBit_eq
        intro j
        rw [Nat.testBit_and, Nat.zero_testBit]
        by_cases hj : j < 32 - k
        · have : (trnN k n).testBit j = false := by
            have h3 := congrArg (fun x => x.testBit j) h1
            simp only [Nat.testBit_mod_two_pow, Nat.zero_testBit, hj, decide_true, Bool.true_and] at h3
            exact h3
          rw [this]; rfl
        · have : ((n >>> k % 2) <<< (31 - k)).testBit j = false := by
            apply Nat.testBit_lt_two_pow
            rw [Nat.shiftLeft_eq]
            have h4 : n >>> k % 2 < 2 := Nat.mod_lt _ (by decide)
            have h5 : 2 ^ (31 - k + 1) ≤ 2 ^ j := Nat.pow_le_pow_right (by decide) (by omega)
            have h6 : n >>> k % 2 * 2 ^ (31 - k) ≤ 1 * 2 ^ (31 - k) := Nat.mul_le_mul_right _ (by omega)
            have h7 : 0 < 2 ^ (31 - k) := Nat.two_pow_pos _
            rw [Nat.pow_succ] at h5
            omega
          rw [this, Bool.and_false]
      omega
    refine ⟨?_, ?_⟩
    · rw [e2, hx, Nat.shiftLeft_eq, Nat.add_mul_mod_self_right]
      rw [e1, Nat.pow_succ] at h1
      exact Nat.mod_eq_zero_of_dvd (Nat.dvd_trans (Nat.dvd_mul_right _ 2) (Nat.dvd_of_mod_eq_zero h1))
    · rw [List.range_succ, List.map_append, List.sum_append, h2, hx]
      simp
theorem trn_sum (n : Nat) : (((List.range 32).map fun i => (((n >>> i % 2) <<< (31 - i) : Nat) : Int)).sum = ((trn n : Nat) : Int)) := (trn_sum_aux n 32 (Nat.le_refl _)).2
theorem turned_spec {w : World} {X : List (Addr × Obj)} {n : Nat} {t : Tok} :
    Spec 1 w 165 [.int n t] X (fun r X' => (∃ t', r = .int (trn n : Nat) t') ∧ ∀ q ∈ X, q ∈ X') := by
  unfold Spec
  k_fill
  intro loose mean mg mb dp un gd cn cs a ccd cl outer A₀ base h₀ L m s Q E B F KX N T hk hdp hun hret
  refine wpAny_call ?_
  walk_at "enterC"
  rename Fr _ _ _ (bindL _ _ _) => FB
  rename _ = Data.cell _ => dB
  rename News _ _ _ ((_, _) :: X) => NB
  obtain ⟨o9, N9, d9⟩ : ∃ o9, News _ _ _ ((_, o9) :: X) ∧ o9.data = .cell (some (.int n t)) := ⟨_, NB, dB⟩
  obtain ⟨m9, F9⟩ : ∃ m9, Fr _ _ _ m9 := ⟨_, FB⟩
  clear FB dB NB
  k_steps
  refine Stop.in ?_
  k_dflt (refine LCg.ListComp_U (F₀ := by k_asm) (by with_unfolding_all rfl) (by decide) (by rfl) (by decide) (by rfl) ?_)
  k_steps
  refine Stop.in ?_
  k_dflt (refine' comp_rngU (n := 32) (fun i y => ∃ t', y = .int (((n >>> i % 2) <<< (31 - i) : Nat) : Int) t') ?h ?F ?N ?r ?s ?n ?z ?e ?f; (case h => exact rfl); (case F => k_asm); (case N => k_asm); (case r => assumption); (case s => decide); (case n => rfl); (case z => decide))
  case f =>
    intro g ys hl hR
    have hI := ints_of hl hR
    refine finE fun D hD tkD FD ND lD => ?_
    k_steps
    refine hret _ _ _ _ (by assumption) (by assumption) ⟨⟨_, congrArg (fun z => Value.int z _) (trn_sum n)⟩, fun q h => .tail _ (.tail _ h)⟩
  case e =>
    intro i t' ys I oI C oC D m₂ h tk E' hi hC hx F1 N1
    k_steps
    refine Stop.in ?_
    refine lshift_int_small (by omega) (by omega) (bit_small _) ?_
    k_steps
    refine Stop.in (EltEnd.mk (by assumption) (by assumption) ⟨_, congrArg (fun z => Value.int z _) (turned_elt hi)⟩)
end
theorem anew6 : (0 : Nat) = 0 := by
  first | walk1 | rfl
section
local macro_rules | `(tactic| walk_at "exec For") => `(tactic| (k_here; (rename Fr _ _ _ _ => lF'); (with_unfolding_all refine' For_invVF lF' ?k1 ?k2 ?_; (case k1 => exact rfl); (case k2 => exact rfl); k_whole)))
local macro_rules | `(tactic| walk_at $s:str) => if ["eval ListComp", "CompSrc", "EltEnd"].contains s.getString then `(tactic| (refine Stop.out ?_)) else Lean.Macro.throwUnsupported
def pws : Nat → Nat := fun i => [32, 26, 23, 22, 16, 12, 11, 10, 8, 7, 5, 4, 2, 1, 0].getD i 0
theorem map_at2 {m : Str → Option Value} {x x2 : Str} {v v2 : Value} (h : m x = some v) (h2 : m x2 = some v2) : m = fun y => if y = x then some v else if y = x2 then some v2 else m y := by
  funext y
  by_cases e : y = x
  · rw [if_pos e, e, h]
  · rw [if_neg e]
    by_cases e2 : y = x2
    · rw [if_pos e2, e2, h2]
    · rw [if_neg e2]
theorem rest_bit {i x : Nat} (hi : i < 40) : Builtin.bitAnd ((x : Int).fdiv (2 ^ ((71 : Int) + (i : Int) * -1).toNat)) 1 = ((x >>> (71 - i) % 2 : Nat) : Int) := by
  rw [bitAnd_m1, Int.fdiv_eq_ediv_of_nonneg _ (Int.le_of_lt (Int.pow_pos (by decide))), Nat.shiftRight_eq_div_pow]
  have : ((71 : Int) + (i : Int) * -1).toNat = 71 - i := by omega
  rw [this]
  rfl
theorem test_of {x k : Nat} : x.testBit k = decide (x >>> k % 2 = 1) := by
  rw [Nat.testBit_eq_decide_div_mod_eq, Nat.shiftRight_eq_div_pow]
theorem rest_odd {i n : Nat} (hi : i < 40) (h : Builtin.bitAnd (((rstN i n : Nat) : Int).fdiv (2 ^ ((71 : Int) + (i : Int) * -1).toNat)) 1 ≠ 0) : Builtin.bitXor ((rstN i n : Nat) : Int) (((dvs : Nat) : Int) * 2 ^ ((71 : Int) + (i : Int) * -1 - 32).toNat) = ((rstN (i + 1) n : Nat) : Int) := by
  rw [rest_bit hi] at h
  have e : ((71 : Int) + (i : Int) * -1 - 32).toNat = 71 - i - 32 := by omega
  have e2 : (((dvs : Nat) : Int) * 2 ^ (71 - i - 32)) = ((dvs <<< (71 - i - 32) : Nat) : Int) := by
    rw [Nat.shiftLeft_eq, Int.natCast_mul, Int.natCast_pow]; rfl
  rw [e, e2, bitXor_nat]
  show _ = ((rstS (71 - i) (rstN i n) : Nat) : Int)
  unfold rstS
  rw [if_pos (by rw [test_of]; exact decide_eq_true (by omega))]
theorem rest_even {i n : Nat} (hi : i < 40) (h : Builtin.bitAnd (((rstN i n : Nat) : Int).fdiv (2 ^ ((71 : Int) + (i : Int) * -1).toNat)) 1 = 0) : rstN i n = rstN (i + 1) n := by
  rw [rest_bit hi] at h
  show _ = rstS (71 - i) (rstN i n)
  unfold rstS
  rw [if_neg (by rw [test_of]; intro hh; have h2 := of_decide_eq_true hh; rw [h2] at h; cases h)]
theorem rest_spec {w : World} {X : List (Addr × Obj)} {n : Nat} {t : Tok} :
    Spec 1 w 170 [.int n t] X (fun r X' => (∃ t', r = .int (rst n : Nat) t') ∧ ∀ q ∈ X, q ∈ X') := by
  unfold Spec
  k_fill
  intro loose mean mg mb dp un gd cn cs a ccd cl outer A₀ base h₀ L m s Q E B F KX N T hk hdp hun hret
  refine wpAny_call ?_
  k_dflt ktr_enter
  k_steps
  refine Stop.in ?_; k_dflt (refine' LCg.ListComp_U ?fx3 ?ax3 ?bx3 ?cx3 ?dx3 ?ex3 ?_ ?gx3; (case fx3 => k_asm); (case bx3 => decide); (case cx3 => exact rfl); (case dx3 => decide); (case ex3 => exact rfl); (case ax3 => with_unfolding_all exact rfl); (case gx3 => exact fun _ => by simp only [foldedSetIterable]))
  k_steps
  refine Stop.in ?_
  k_dflt (refine' comp_lstU (fun i y => ∃ t', y = .int (2 ^ pws i) t') ?h ?F ?N ?r ?z ?e ?f; (case h => exact rfl); (case F => k_asm); (case N => k_asm); (case r => exact .head _); (case z => exact Nat.le_of_ble_eq_true rfl))
  case e =>
    intro i v ys I oI C oC D m₂ h tk E' hv hC hx F1 N1
    have hi : i < 15 := (List.getElem?_eq_some_iff.mp hv).1
    have : i = 0 ∨ i = 1 ∨ i = 2 ∨ i = 3 ∨ i = 4 ∨ i = 5 ∨ i = 6 ∨ i = 7 ∨ i = 8 ∨ i = 9 ∨ i = 10 ∨ i = 11 ∨ i = 12 ∨ i = 13 ∨ i = 14 := by omega
    clear hi
    rcases this with rfl | rfl | rfl | rfl | rfl | rfl | rfl | rfl | rfl | rfl | rfl | rfl | rfl | rfl | rfl
    all_goals (
      simp only [List.getElem?_cons_zero, List.getElem?_cons_succ, Option.some.injEq] at hv
      subst hv
      k_steps
      refine Stop.in (EltEnd.mk (by assumption) (by assumption) ⟨_, rfl⟩))
  case f =>
    intro g ys hl hR
    have hl : ys.length = 15 := hl
    obtain ⟨ns, hns, hI⟩ : ∃ ns, ns.sum = ((dvs : Nat) : Int) ∧ IntsAre ys ns := ⟨_, by decide +kernel, ints_of hl hR⟩
    clear hR
    refine finE fun D hD tkD FD ND lD => ?_
    k_steps
    rename IsRange _ _ _ _ _ _ _ _ => hRg
    rename Fr _ _ _ (fun y => if y = Str.ofString "divisor" then _ else _) => F2
    rename News _ _ _ ((D, _) :: _) => N2
    rw [hns] at F2
    refine Stop.in ?_
    k_dflt (refine' iter_rng (n := 40) (fun i m' X' => (∃ t', m' (Str.ofString "number") = some (.int ((rstN i n : Nat) : Int) t')) ∧ (∃ t', m' (Str.ofString "divisor") = some (.int ((dvs : Nat) : Int) t')) ∧ ∀ q ∈ X, q ∈ X') rfl hRg rfl rfl F2 N2 ?j ?t ?d)
    case j => exact ⟨⟨_, rfl⟩, ⟨_, rfl⟩, fun q h => .tail _ (.tail _ h)⟩
    case d =>
      rintro m₁ X₁ h1 tk1 ⟨⟨t1, e1⟩, _, up⟩ F1 N1
      rw [map_at e1] at F1
      (try dsimp only)
      k_steps
      exact hret _ _ _ _ (by assumption) (by assumption) ⟨⟨_, rfl⟩, up⟩
    case t =>
      rintro i t' m₁ X₁ h1 tk1 I io hi lI ⟨⟨t1, e1⟩, ⟨t2, e2⟩, up⟩ hI F1 N1
      rw [map_at2 e1 e2] at F1
      k_steps
      all_goals (rename Fr _ _ _ _ => F9; rename News _ _ _ _ => N9)
      · rename Builtin.bitAnd _ _ ≠ 0 => hb
        rw [rest_odd hi hb] at F9
        exact MyTurn.next F9 N9 (.head _) (fun q h => nomatch h) ⟨⟨_, rfl⟩, ⟨_, rfl⟩, fun q hq => mem_off (.tail _ (up q hq)) (hI q (up q hq))⟩
      · rename Builtin.bitAnd _ _ = 0 => hb
        refine MyTurn.next F9 N9 (.head _) (fun q h => nomatch h) ⟨⟨t1, ?_⟩, ⟨_, rfl⟩, fun q hq => mem_off (.tail _ (up q hq)) (hI q (up q hq))⟩
        rw [← rest_even hi hb]; rfl
end
theorem anew7 : (0 : Nat) = 0 := by
  first | walk1 | rfl
section
local macro_rules | `(tactic| walk_at $s:str) => if ["eval ListComp", "exec Assign cons ListComp", "CompSrc", "FinE", "EltEnd", "exec For", "pyIter ref", "call ref"].contains s.getString then `(tactic| (refine Stop.out ?_)) else Lean.Macro.throwUnsupported
local macro_rules | `(tactic| walk_at "subscriptTail") => `(tactic| (first | walk_at "subI" | walk_at "subR"))
local macro_rules | `(tactic| walk_at "setItem ref int") => `(tactic| (k_here; (with_reducible show wpAny _ _ (setItem (Value.ref _) (Value.int _ _) (Value.int _ _)) _ _ _); k_dflt (refine' set_ints ?F ?N ?m ?i ?l ?z ?_; (case F => k_asm); (case N => k_asm); (case m => k_mem); (case i => assumption); (case l => first | assumption | omega); (case z => decide)); intro h' vs' F' N' hI'))
theorem fmod2 (n : Nat) : ((n : Int).fmod 2 = 1) ↔ n % 2 = 1 := by
  rw [Int.fmod_eq_emod_of_nonneg _ (by decide)]
  omega
theorem ints_of2 {α : Type} {f : α → Int} : ∀ {l : List α} {ys : List Value}, ys.length = l.length → (∀ (j : Nat) (y : Value), ys[j]? = some y → ∃ (a : α) (t : Tok), l[j]? = some a ∧ y = Value.int (f a) t) → IntsAre ys (l.map f)
  | [], [], _, _ => .nil
  | a :: l, y :: ys, hl, h => by
    obtain ⟨a', t, e, rfl⟩ := h 0 y rfl
    have : a = a' := Option.some.inj e
    subst this
    exact IntsAre.cons _ t (ints_of2 (l := l) (Nat.succ.inj hl) fun j y e => h (j + 1) y e)
theorem sum_cast (f : Nat → Nat) : ∀ l : List Nat, (l.map fun (a : Nat) => (f a : Int)).sum = (((l.map f).sum : Nat) : Int)
  | [] => rfl
  | a :: l => by simp only [List.map_cons, List.sum_cons, sum_cast f l]; omega
/-- the law's own lists: the six numbers, the six lists of lesser nodes -/
structure Inp (X : List (Addr × Obj)) (own : Nat → Nat) (into : Nat → List Nat) (oa ta : Addr) (la : Nat → Addr) : Prop where
  nums : ∃ vs k, (oa, listO vs k) ∈ X ∧ IntsAre vs ((List.range 6).map fun v => (own v : Int))
  tab : ∃ ts k, (ta, listO ts k) ∈ X ∧ ∀ v, v < 6 → ts[v]? = some (.ref (la v))
  row : ∀ v, v < 6 → ∃ vs k, (la v, listO vs k) ∈ X ∧ IntsAre vs ((into v).map fun (a : Nat) => (a : Int))
  low : ∀ v, ∀ a ∈ into v, a < v
  len : ∀ v, (into v).length ≤ 1000
  big : ∀ v, own v < 2 ^ 32
theorem Inp.mono {X Y : List (Addr × Obj)} {own : Nat → Nat} {into : Nat → List Nat} {oa ta : Addr} {la : Nat → Addr} (I : Inp X own into oa ta la) (h : ∀ q ∈ X, q ∈ Y) : Inp Y own into oa ta la := by
  obtain ⟨⟨vs, k, h1, h2⟩, ⟨ts, k2, h3, h4⟩, row, low, len, big⟩ := I
  refine ⟨⟨vs, k, h _ h1, h2⟩, ⟨ts, k2, h _ h3, h4⟩, fun v hv => ?_, low, len, big⟩
  obtain ⟨vs, k, h5, h6⟩ := row v hv
  exact ⟨vs, k, h _ h5, h6⟩
theorem map_at3 {m : Str → Option Value} {x x2 x3 : Str} {v v2 v3 : Value} (h : m x = some v) (h2 : m x2 = some v2) (h3 : m x3 = some v3) : m = fun y => if y = x then some v else if y = x2 then some v2 else if y = x3 then some v3 else m y := by
  funext y
  by_cases e : y = x
  · rw [if_pos e, e, h]
  · rw [if_neg e]
    by_cases e2 : y = x2
    · rw [if_pos e2, e2, h2]
    · rw [if_neg e2]
      by_cases e3 : y = x3
      · rw [if_pos e3, e3, h3]
      · rw [if_neg e3]
theorem map_at4 {m : Str → Option Value} {x x2 x3 x4 : Str} {v v2 v3 v4 : Value} (h : m x = some v) (h2 : m x2 = some v2) (h3 : m x3 = some v3) (h4 : m x4 = some v4) : m = fun y => if y = x then some v else if y = x2 then some v2 else if y = x3 then some v3 else if y = x4 then some v4 else m y := by
  funext y
  by_cases e : y = x
  · rw [if_pos e, e, h]
  · rw [if_neg e]
    by_cases e2 : y = x2
    · rw [if_pos e2, e2, h2]
    · rw [if_neg e2]
      by_cases e3 : y = x3
      · rw [if_pos e3, e3, h3]
      · rw [if_neg e3]
        by_cases e4 : y = x4
        · rw [if_pos e4, e4, h4]
        · rw [if_neg e4]
section
variable (own : Nat → Nat) (into : Nat → List Nat)
def tgU (i v : Nat) : Nat := xs ((List.range i).map fun u => xs ((List.range (6 - u)).map fun s => ctr own into u s v))
def tgS (i s v : Nat) : Nat := tgU own into i v ^^^ xs ((List.range s).map fun s => ctr own into i s v)
def tgV (i s k v : Nat) : Nat := if v < k then tgS own into i (s + 1) v else tgS own into i s v
end
theorem xs_snoc (l : List Nat) (a : Nat) : xs (l ++ [a]) = xs l ^^^ a := by
  rw [xs_append]; simp [xs]
theorem tgU_zero {own : Nat → Nat} {into : Nat → List Nat} {v : Nat} : tgU own into 0 v = 0 := rfl
theorem tgS_zero {own : Nat → Nat} {into : Nat → List Nat} {i v : Nat} : tgS own into i 0 v = tgU own into i v := by
  unfold tgS; simp [xs]
theorem tgS_succ {own : Nat → Nat} {into : Nat → List Nat} {i s v : Nat} : tgS own into i (s + 1) v = tgS own into i s v ^^^ ctr own into i s v := by
  unfold tgS
  rw [List.range_succ, List.map_append, List.map_singleton, xs_snoc, Nat.xor_assoc]
theorem tgS_last {own : Nat → Nat} {into : Nat → List Nat} {i v : Nat} : tgS own into i (6 - i) v = tgU own into (i + 1) v := by
  unfold tgS tgU
  rw [List.range_succ, List.map_append, List.map_singleton, xs_snoc]
theorem wys0 {into : Nat → List Nat} {i v : Nat} : wys into i 0 v = if v = i then 1 else 0 := rfl
theorem rng6 {i : Nat} (h : i < 6) : Builtin.Range.rangeSize 0 (6 - (i : Int)) 1 = ((6 - i : Nat) : Int) ∧ Builtin.Range.small 0 (6 - (i : Int)) 1 = true := by
  have : i = 0 ∨ i = 1 ∨ i = 2 ∨ i = 3 ∨ i = 4 ∨ i = 5 := by omega
  rcases this with rfl | rfl | rfl | rfl | rfl | rfl <;> exact ⟨rfl, rfl⟩
theorem tgV_self {own : Nat → Nat} {into : Nat → List Nat} {i s v : Nat} : tgV own into i s v v = tgS own into i s v := if_neg (Nat.lt_irrefl _)
theorem tgV_step {own : Nat → Nat} {into : Nat → List Nat} {i s v : Nat} {x : Int} (hx : x = ((tgS own into i (s + 1) v : Nat) : Int)) : (fun j => if j = v then x else ((tgV own into i s v j : Nat) : Int)) = fun j => ((tgV own into i s (v + 1) j : Nat) : Int) := by
  funext j
  by_cases e : j = v
  · subst e; rw [if_pos rfl, hx]; unfold tgV; rw [if_pos (Nat.lt_succ_self _)]
  · rw [if_neg e]
    unfold tgV
    by_cases l : j < v
    · rw [if_pos l, if_pos (by omega)]
    · rw [if_neg l, if_neg (by omega)]
theorem tgV_odd {own : Nat → Nat} {into : Nat → List Nat} {i s v : Nat} (h : ((wys into i s v : Nat) : Int).fmod 2 = 1) : Builtin.bitXor ((tgV own into i s v v : Nat) : Int) (((trn (own i) : Nat) : Int) * 2 ^ ((8 : Int) * (s : Int)).toNat) = ((tgS own into i (s + 1) v : Nat) : Int) := by
  have e : ((8 : Int) * (s : Int)).toNat = 8 * s := by omega
  have e2 : (((trn (own i) : Nat) : Int) * 2 ^ (8 * s)) = ((trn (own i) <<< (8 * s) : Nat) : Int) := by
    rw [Nat.shiftLeft_eq, Int.natCast_mul, Int.natCast_pow]; rfl
  rw [e, e2, bitXor_nat, tgV_self, tgS_succ]
  unfold ctr
  rw [if_pos ((fmod2 _).mp h)]
theorem tgV_even {own : Nat → Nat} {into : Nat → List Nat} {i s v : Nat} (h : ((wys into i s v : Nat) : Int).fmod 2 ≠ 1) : (fun j => ((tgV own into i s v j : Nat) : Int)) = fun j => ((tgV own into i s (v + 1) j : Nat) : Int) := by
  rw [← tgV_step (x := ((tgV own into i s v v : Nat) : Int))]
  · funext j
    by_cases e : j = v
    · rw [if_pos e, e]
    · rw [if_neg e]
  · rw [tgV_self, tgS_succ]
    unfold ctr
    rw [if_neg (fun q => h ((fmod2 _).mpr q)), Nat.xor_zero]
theorem tgV_last {own : Nat → Nat} {into : Nat → List Nat} {i s : Nat} : ((List.range 6).map fun v => ((tgV own into i s 6 v : Nat) : Int)) = (List.range 6).map fun v => ((tgS own into i (s + 1) v : Nat) : Int) :=
  List.map_congr_left fun v hv => by unfold tgV; rw [if_pos (List.mem_range.mp hv)]
theorem apart3 (L : Addr) : L + 1 ≠ L + 1 + 1 ∧ L + 1 ≠ L + 1 + 1 + 1 ∧ L + 1 + 1 ≠ L + 1 + 1 + 1 := by
  have e : ∀ a b : Nat, a < b → a ≠ b := fun a b h => Nat.ne_of_lt h
  exact ⟨e _ _ (Nat.lt_succ_self _), e _ _ (Nat.lt_succ_of_lt (Nat.lt_succ_self _)), e _ _ (Nat.lt_succ_self _)⟩
theorem due_spec {w : World} {X : List (Addr × Obj)} {own : Nat → Nat} {into : Nat → List Nat} {oa ta : Addr} {la : Nat → Addr} (I0 : Inp X own into oa ta la) :
    Spec 2 w 175 [.ref oa, .ref ta] X (fun r X' => (∃ D ys k, r = .ref D ∧ (D, listO ys k) ∈ X' ∧ IntsAre ys ((List.range 6).map fun v => (trn (rst (tog own into v)) : Int))) ∧ ∀ q ∈ X, q ∈ X') := by
  unfold Spec
  k_fill
  intro loose mean mg mb dp un gd cn cs a ccd cl outer A₀ base h₀ L m s Q E B F KX N T hk hdp hun hret
  refine wpAny_call ?_
  walk_at "enterC"
  rename Fr _ _ _ (bindL _ _ _) => FB
  rename News _ _ _ ((_, _) :: (_, _) :: (_, _) :: X) => NB
  rename (∀ p ∈ X, p.1 < _) => lX
  rename_i g' L' h' tk' FG' B' X' T' oW oU oI d1 d2 d3
  have dW : oW.data = .cell none := d1
  have dU : oU.data = .cell none := d2
  have dI : oI.data = .cell (some (.ref ta)) := d3
  obtain ⟨m9, e9, F9⟩ : ∃ m9, m9 (Str.ofString "own") = some (.ref oa) ∧ Fr g' L' h' m9 := ⟨_, rfl, FB⟩
  clear FB d1 d2 d3
  rw [map_at e9] at F9
  k_steps
  rename_i tg _ lT hL FL NL
  obtain ⟨nIU, nIW, nUW⟩ := apart3 L'
  have lX1 : ∀ c : Addr, L' < c → ∀ q ∈ X, q.1 ≠ c := fun c hc q hq => Nat.ne_of_lt (Nat.lt_trans (lX q hq) hc)
  have lcI := lX1 _ (Nat.lt_succ_self _)
  have lcU := lX1 _ (Nat.lt_succ_of_lt (Nat.lt_succ_self _))
  have lcW := lX1 _ (Nat.lt_succ_of_lt (Nat.lt_succ_of_lt (Nat.lt_succ_self _)))
  have nTI : L' + 1 ≠ tg := Nat.ne_of_lt lT.2.2.1
  have nTU : L' + 1 + 1 ≠ tg := Nat.ne_of_lt lT.2.1
  have nTW : L' + 1 + 1 + 1 ≠ tg := Nat.ne_of_lt lT.1
  have lXT : ∀ q ∈ X, q.1 ≠ tg := lX1 _ (Nat.lt_trans (Nat.lt_succ_self _) lT.2.2.1)
  obtain ⟨XL, NL2, upL, hcI, hcU, hcW, htg⟩ : ∃ XL, News g' L' hL XL ∧ (∀ q ∈ X, q ∈ XL) ∧ (L' + 1, oI) ∈ XL ∧ (L' + 1 + 1, oU) ∈ XL ∧ (L' + 1 + 1 + 1, oW) ∈ XL ∧ ∃ zs k, (tg, listO zs k) ∈ XL ∧ IntsAre zs ((List.range 6).map fun v => ((tgU own into 0 v : Nat) : Int)) :=
    ⟨_, NL, fun q h => .tail _ (.tail _ (.tail _ (.tail _ h))), .tail _ (.tail _ (.tail _ (.head _))), .tail _ (.tail _ (.head _)), .tail _ (.head _), _, _, .head _, .cons _ _ (.cons _ _ (.cons _ _ (.cons _ _ (.cons _ _ (.cons _ _ .nil)))))⟩
  clear NL lT
  obtain ⟨os, ko, ho, hIo⟩ := I0.nums
  obtain ⟨ts, kt, ht, hts⟩ := I0.tab
  refine Stop.in ?_
  k_dflt (refine' For_invTF FL ?_ ?_)
  case refine'_2 => exact fun _ => by simp only [foldedSetIterable]
  k_steps
  rename IsRange _ _ _ _ _ _ _ _ => hRg
  refine Stop.in ?_
  k_dflt (refine' iter_rngT (n := 6) (fun i m' X₁ => m' (Str.ofString "own") = some (.ref oa) ∧ m' (Str.ofString "together") = some (.ref tg) ∧ (∀ q ∈ XL, q.1 ≠ tg → q.1 ≠ L' + 1 + 1 → q.1 ≠ L' + 1 + 1 + 1 → q ∈ X₁) ∧ (∃ o v, (L' + 1 + 1, o) ∈ X₁ ∧ o.data = .cell v) ∧ (∃ o v, (L' + 1 + 1 + 1, o) ∈ X₁ ∧ o.data = .cell v) ∧
    ∃ zs k, (tg, listO zs k) ∈ X₁ ∧ IntsAre zs ((List.range 6).map fun v => ((tgU own into i v : Nat) : Int))) rfl hRg rfl rfl ?F ?N ?j ?t ?d; (case F => k_asm); (case N => k_asm))
  case j => exact ⟨rfl, rfl, fun q h _ _ _ => h, ⟨_, _, hcU, dU⟩, ⟨_, _, hcW, dW⟩, htg⟩
  case d =>
    rintro m₁ X₁ h1 tk1 ⟨e1, e2, up, ⟨oU1, vU, hU1, dU1⟩, ⟨oW1, vW, hW1, dW1⟩, zs, k, hz, hI⟩ F1 N1
    rw [map_at2 e1 e2] at F1
    k_steps
    refine Stop.in ?_; k_dflt (refine' LCg.ListComp_U ?fx4 ?ax4 ?bx4 ?cx4 ?dx4 ?ex4 ?_ ?gx4; (case fx4 => k_asm); (case bx4 => decide); (case cx4 => exact rfl); (case dx4 => decide); (case ex4 => exact rfl); (case ax4 => with_unfolding_all exact rfl); (case gx4 => exact fun _ => by simp only [foldedSetIterable]))
    k_steps
    refine Stop.in ?_
    have hlz := hI.length
    k_dflt (refine' comp_lstU (fun v y => ∃ t', y = .int ((trn (rst (tog own into v)) : Nat) : Int) t') ?h ?F ?N ?r ?z ?e ?f; (case h => exact rfl); (case F => k_asm); (case N => k_asm); (case r => k_mem); (case z => rw [hlz, List.length_map, List.length_range]; decide))
    case e =>
      intro v vv ys I oI C oC D m₂ h tk E' hvv hC hx F1 N1
      obtain ⟨n, tn, rfl, hn⟩ := IntsAre.at hI v vv hvv
      have hv : v < 6 := by
        have := (List.getElem?_eq_some_iff.mp hn).1
        simpa using this
      rw [List.getElem?_map, List.getElem?_range hv] at hn
      have hn : ((tog own into v : Nat) : Int) = n := Option.some.inj hn
      subst hn
      k_steps
      refine Stop.in ?_; k_dflt (refine' Spec.use rest_spec ?Bx5 ?Fx5 ?Kx5 ?Nx5 ?Tx5 ?hkx5 ?dx5 ?ux5 ?_; (case Bx5 => k_asm); (case Fx5 => k_asm); (case Kx5 => k_asm); (case Nx5 => k_asm); (case Tx5 => k_asm); (case hkx5 => exact rfl); (case dx5 => first | omega | ((try simp only [depth_under_make, depth_under_kw, depth_in1, depth_deeper, depth_caller]); (try dsimp only [ktrTop]); omega)); (case ux5 => first | omega | ((try simp only [units_in1, units_deeper, Around.mark_units, units_caller]); (try dsimp only [ktrTop]); omega)))
      rintro r X2 h2 tk2 F2 N2 ⟨⟨t2, rfl⟩, up2⟩
      (try dsimp only)
      k_steps
      refine Stop.in ?_; k_dflt (refine' Spec.use turned_spec ?Bx6 ?Fx6 ?Kx6 ?Nx6 ?Tx6 ?hkx6 ?dx6 ?ux6 ?_; (case Bx6 => k_asm); (case Fx6 => k_asm); (case Kx6 => k_asm); (case Nx6 => k_asm); (case Tx6 => k_asm); (case hkx6 => exact rfl); (case dx6 => first | omega | ((try simp only [depth_under_make, depth_under_kw, depth_in1, depth_deeper, depth_caller]); (try dsimp only [ktrTop]); omega)); (case ux6 => first | omega | ((try simp only [units_in1, units_deeper, Around.mark_units, units_caller]); (try dsimp only [ktrTop]); omega)))
      rintro r X3 h3 tk3 F3 N3 ⟨⟨t3, rfl⟩, up3⟩
      (try dsimp only)
      k_steps
      exact Stop.in (EltEnd.mk (by assumption) (Mine.News.sub N3 fun q h => up3 q (up2 q h)) ⟨_, rfl⟩)
    case f =>
      intro g ys hl hR
      have hIw := ints_of (hl.trans (by rw [hlz])) hR
      refine finE fun D hD tkD FD ND lD => ?_
      k_steps
      exact hret _ _ _ _ (by assumption) (by assumption) ⟨⟨D, ys, _, rfl, .head _, hIw⟩, fun q hq => .tail _ (up q (upL q hq) (lXT q hq) (lcU q hq) (lcW q hq))⟩
  case t =>
    rintro i t' m₁ X₁ s₁ I io hi lI ⟨e1, e2, up, ⟨oU1, vU, hU1, dU1⟩, ⟨oW1, vW, hW1, dW1⟩, zs, k, hz, hI⟩ hI1 F1 N1
    rw [map_at2 e1 e2] at F1
    have fX : ∀ q ∈ X, q ∈ X₁ := fun q hq => up q (upL q hq) (lXT q hq) (lcU q hq) (lcW q hq)
    have ho1 := fX _ ho
    have noU : oa ≠ L' + 1 + 1 := lcU _ ho
    have nIU1 : I ≠ L' + 1 + 1 := fun e => hI1 _ hU1 e.symm
    have nIT : I ≠ tg := fun e => hI1 _ hz e.symm
    have nIW1 : I ≠ L' + 1 + 1 + 1 := fun e => hI1 _ hW1 e.symm
    k_steps
    refine Stop.in ?_; k_dflt (refine' Spec.use turned_spec ?Bx7 ?Fx7 ?Kx7 ?Nx7 ?Tx7 ?hkx7 ?dx7 ?ux7 ?_; (case Bx7 => k_asm); (case Fx7 => k_asm); (case Kx7 => k_asm); (case Nx7 => k_asm); (case Tx7 => k_asm); (case hkx7 => exact rfl); (case dx7 => first | omega | ((try simp only [depth_under_make, depth_under_kw, depth_in1, depth_deeper, depth_caller]); (try dsimp only [ktrTop]); omega)); (case ux7 => first | omega | ((try simp only [units_in1, units_deeper, Around.mark_units, units_caller]); (try dsimp only [ktrTop]); omega)))
    rintro r X2 h2 tk2 F2 N2 ⟨⟨t2, rfl⟩, up2⟩
    have g2 : ∀ q ∈ X₁, q.1 ≠ L' + 1 + 1 → q ∈ X2 := fun q h n => up2 _ (.tail _ (mem_off (.tail _ h) n))
    have hI2 : (I, io) ∈ X2 := up2 _ (.tail _ (mem_off (.head _) nIU1))
    have hU2 := up2 _ (.head _)
    have hW2 := g2 _ hW1 nUW.symm
    have hT2 := g2 _ hz nTU.symm
    have fX2 : ∀ q ∈ X, q ∈ X2 := fun q hq => g2 q (fX q hq) (lcU q hq)
    clear up2
    (try dsimp only)
    k_steps
    refine Stop.in ?_
    with_reducible refine wpAny_Assign_Name ?_ ?_
    rotate_left
    with_unfolding_all exact rfl
    refine Stop.in ?_; k_dflt (refine' LCg.ListComp_U ?fx8 ?ax8 ?bx8 ?cx8 ?dx8 ?ex8 ?_ ?gx8; (case fx8 => k_asm); (case bx8 => decide); (case cx8 => exact rfl); (case dx8 => decide); (case ex8 => exact rfl); (case ax8 => with_unfolding_all exact rfl); (case gx8 => exact fun _ => by simp only [foldedSetIterable]))
    k_steps
    rename IsRange _ _ _ _ _ _ _ _ => hRg
    refine Stop.in ?_
    k_dflt (refine' comp_rng0 (n := 6) (fun v y => ∃ t', y = .int ((wys into i 0 v : Nat) : Int) t') ?h ?F ?N ?r ?s ?n ?z ?e ?f; (case h => exact rfl); (case F => k_asm); (case N => k_asm); (case r => assumption); (case s => decide); (case n => exact rfl); (case z => decide))
    case e =>
      intro v t' ys I' oI' C oC D m₂ h tk E' hi' hC hx F1 N1
      k_steps
      · rename (v : Int) = (i : Int) => hv
        refine Stop.in (EltEnd.mk (by assumption) (by assumption) ⟨_, congrArg (fun z => Value.int z _) ?_⟩)
        rw [wys0, if_pos (by omega)]; rfl
      · rename (v : Int) ≠ (i : Int) => hv
        refine Stop.in (EltEnd.mk (by assumption) (by assumption) ⟨_, congrArg (fun z => Value.int z _) ?_⟩)
        rw [wys0, if_neg (by omega)]; rfl
    case f =>
      intro g ys hl hR
      have hIw := ints_of hl hR
      clear hR hRg
      refine finE fun D hD tkD FD ND lD => ?_
      have nDW : D ≠ L' + 1 + 1 + 1 := fun e => lD _ hW2 e.symm
      have nDT : D ≠ tg := fun e => lD _ hT2 e.symm
      k_steps
      rename IsRange _ _ _ _ _ _ _ _ => hRg
      rename_i hW oW3 FW NW dW3 hS tkS _ _ _ F3 N3 _
      obtain ⟨X3, N4, hI3, fX3, hU3, hW3, hwW, hwL, hT3, g3⟩ : ∃ X3, News g' L' hS X3 ∧ (I, io) ∈ X3 ∧ (∀ q ∈ X, q ∈ X3) ∧ (∃ o, (L' + 1 + 1, o) ∈ X3 ∧ o.data = .cell (some (.int i t'))) ∧ (L' + 1 + 1 + 1, oW3) ∈ X3 ∧ D ≠ L' + 1 + 1 + 1 ∧ (D, listO ys ys.length) ∈ X3 ∧ (tg, listO zs k) ∈ X3 ∧ ∀ q ∈ X₁, q.1 ≠ L' + 1 + 1 → q.1 ≠ L' + 1 + 1 + 1 → q ∈ X3 :=
        ⟨_, N3, .tail _ (mem_off (.tail _ hI2) nIW1), fun q h => .tail _ (mem_off (.tail _ (fX2 q h)) (lcW q h)), ⟨_, .tail _ (mem_off (.tail _ hU2) nUW), by assumption⟩, .head _, nDW, .tail _ (mem_off (.head _) nDW), .tail _ (mem_off (.tail _ hT2) nTW.symm), fun q h n1 n2 => .tail _ (mem_off (.tail _ (g2 q h n1)) n2)⟩
      clear N3 NW
      obtain ⟨hn6, hs6⟩ := rng6 hi
      refine Stop.in ?_
      k_dflt (refine' iter_rng0 (n := 6 - i) (fun s m' Xs => m' (Str.ofString "own") = some (.ref oa) ∧ m' (Str.ofString "together") = some (.ref tg) ∧ m' (Str.ofString "first") = some (.int ((trn (own i) : Nat) : Int) t2) ∧ (∀ q ∈ X3, q.1 ≠ tg → q.1 ≠ L' + 1 + 1 + 1 → q ∈ Xs) ∧
        (∃ o wL ws kw, (L' + 1 + 1 + 1, o) ∈ Xs ∧ o.data = .cell (some (.ref wL)) ∧ wL ≠ tg ∧ wL ≠ L' + 1 + 1 + 1 ∧ (wL, listO ws kw) ∈ Xs ∧ IntsAre ws ((List.range 6).map fun v => ((wys into i s v : Nat) : Int))) ∧
        ∃ zs k, (tg, listO zs k) ∈ Xs ∧ IntsAre zs ((List.range 6).map fun v => ((tgS own into i s v : Nat) : Int))) rfl hRg hs6 hn6 ?F ?N ?j ?t ?d; (case F => k_asm); (case N => exact N4))
      have e0 : (fun v => ((tgS own into i 0 v : Nat) : Int)) = fun v => ((tgU own into i v : Nat) : Int) := funext fun v => by rw [tgS_zero]
      case j => exact ⟨rfl, rfl, rfl, fun q h _ _ => h, ⟨_, _, _, _, hW3, dW3, nDT, hwW, hwL, hIw⟩, _, _, hT3, by rw [e0]; exact hI⟩
      case d =>
        rintro m₃ X₄ h4 tk4 ⟨e1, e2, e3, up4, ⟨oW4, wL, ws, kw, hW4, dW4, nwT, nwW, hwL4, hIw4⟩, zs4, k4, hz4, hI4⟩ F4 N5
        (try dsimp only)
        k_steps
        refine TurnT.next F4 N5 (up4 _ hI3 nIT nIW1) (fun q h => nomatch h) ⟨e1, e2, fun q h n1 n2 n3 => mem_off (up4 _ (g3 _ (up q h n1 n2 n3) n2 n3) n1 n3) (hI1 _ (up q h n1 n2 n3)), ?_, ⟨_, _, mem_off hW4 nIW1.symm, dW4⟩, _, _, mem_off hz4 nIT.symm, ?_⟩
        · obtain ⟨o5, h5, d5⟩ := hU3
          exact ⟨_, _, mem_off (up4 _ h5 nTU nUW) nIU1.symm, d5⟩
        · have e : (fun v => ((tgS own into i (6 - i) v : Nat) : Int)) = fun v => ((tgU own into (i + 1) v : Nat) : Int) := funext fun v => by rw [tgS_last]
          rw [e] at hI4; exact hI4
      case t =>
        rintro sz tz m₃ X₄ h4 tk4 Is ios hsz lIs ⟨e1, e2, e3, up4, ⟨oW4, wL, ws, kw, hW4, dW4, nwT, nwW, hwL4, hIw4⟩, zs4, k4, hz4, hI4⟩ hIs F4 N5
        rw [map_at3 e1 e2 e3] at F4
        have nsI : Is ≠ tg := fun e => hIs _ hz4 e.symm
        have nsW : Is ≠ L' + 1 + 1 + 1 := fun e => hIs _ hW4 e.symm
        have nsL : wL ≠ Is := fun e => hIs _ hwL4 e
        have hfirst : ((trn (own i) : Nat) : Int).natAbs < 2 ^ 64 := by have := trn_lt (I0.big i); omega
        k_steps
        rename IsRange _ _ _ _ _ _ _ _ => hRg2
        rename_i hV tkV _ _ _ F5 N6 _
        refine Stop.in ?_
        k_dflt (refine' iter_rng0 (n := 6) (fun kv m' Xv => m' (Str.ofString "own") = some (.ref oa) ∧ m' (Str.ofString "together") = some (.ref tg) ∧ m' (Str.ofString "first") = some (.int ((trn (own i) : Nat) : Int) t2) ∧ m' (Str.ofString "size") = some (.int sz tz) ∧ (∀ q ∈ (Is, ios) :: X₄, q.1 ≠ tg → q ∈ Xv) ∧
          ∃ zs k, (tg, listO zs k) ∈ Xv ∧ IntsAre zs ((List.range 6).map fun v => ((tgV own into i sz kv v : Nat) : Int))) rfl hRg2 rfl rfl ?F ?N ?j ?t ?d; (case F => k_asm); (case N => exact N6))
        case j =>
          have e0 : (fun v => ((tgV own into i sz 0 v : Nat) : Int)) = fun v => ((tgS own into i sz v : Nat) : Int) := funext fun v => by unfold tgV; rw [if_neg (Nat.not_lt_zero _)]
          exact ⟨rfl, rfl, rfl, rfl, fun q h _ => h, _, _, .tail _ hz4, by rw [e0]; exact hI4⟩
        case t =>
          rintro v tv m₅ X₅ h5 tk5 Iv iov hv lIv ⟨e1, e2, e3, e4, up5, zs5, k5, hz5, hI5⟩ hIv F6 N7
          rw [map_at4 e1 e2 e3 e4] at F6
          have hW5 := up5 _ (.tail _ hW4) nTW
          have hwL5 := up5 _ (.tail _ hwL4) nwT
          have nvT : Iv ≠ tg := fun e => hIv _ hz5 e.symm
          k_steps
          · rename Int.fmod _ 2 = 1 => hc
            rename IntsAre _ (List.map (fun j => if j = v then _ else _) _) => hI6
            rename News _ _ _ _ => N9
            rw [tgV_step (tgV_odd hc)] at hI6
            exact MyTurn.next (by assumption) N9 (.tail _ (mem_off (.head _) nvT)) (fun q h => nomatch h) ⟨rfl, rfl, rfl, rfl, fun q h n => mem_off (.tail _ (mem_off (.tail _ (up5 q h n)) n)) (hIv q (up5 q h n)), _, _, mem_off (.head _) nvT.symm, hI6⟩
          · rename Int.fmod _ 2 ≠ 1 => hc
            rename News _ _ _ _ => N9
            exact MyTurn.next (by assumption) N9 (.head _) (fun q h => nomatch h) ⟨rfl, rfl, rfl, rfl, fun q h n => mem_off (.tail _ (up5 q h n)) (hIv q (up5 q h n)), _, _, mem_off (.tail _ hz5) nvT.symm, by rw [← tgV_even hc]; exact hI5⟩
        case d =>
          rintro m₅ X₅ h5 tk5 ⟨e1, e2, e3, e4, up5, zs5, k5, hz5, hI5⟩ F6 N7
          rw [map_at4 e1 e2 e3 e4] at F6
          rw [tgV_last] at hI5
          have hW5 := up5 _ (.tail _ hW4) nTW
          have hwL5 := up5 _ (.tail _ hwL4) nwT
          have hI5' := up5 _ (.head _) nsI
          have c5 : ∀ q ∈ X3, q.1 ≠ tg → q.1 ≠ L' + 1 + 1 + 1 → q ∈ X₅ := fun q h n1 n2 => up5 _ (.tail _ (up4 q h n1 n2)) n1
          have hcI5 := c5 _ (g3 _ (up _ hcI nTI nIU nIW) nIU nIW) nTI nIW
          have fX5 : ∀ q ∈ X, q ∈ X₅ := fun q h => c5 q (fX3 q h) (lXT q h) (lcW q h)
          have ht5 := fX5 _ ht
          (try dsimp only)
          k_steps
          refine Stop.in ?_
          with_reducible refine wpAny_Assign_Name ?_ ?_
          rotate_left
          with_unfolding_all exact rfl
          refine Stop.in ?_; k_dflt (refine' LCg.ListComp_U ?fx9 ?ax9 ?bx9 ?cx9 ?dx9 ?ex9 ?_ ?gx9; (case fx9 => k_asm); (case bx9 => decide); (case cx9 => exact rfl); (case dx9 => decide); (case ex9 => exact rfl); (case ax9 => with_unfolding_all exact rfl); (case gx9 => exact fun _ => by simp only [foldedSetIterable]))
          k_steps
          rename IsRange _ _ _ _ _ _ _ _ => hRg3
          refine Stop.in ?_
          k_dflt (refine' comp_rng0 (n := 6) (fun v y => ∃ t', y = .int ((wys into i (sz + 1) v : Nat) : Int) t') ?h ?F ?N ?r ?s ?n ?z ?e ?f; (case h => exact rfl); (case F => k_asm); (case N => k_asm); (case r => assumption); (case s => decide); (case n => exact rfl); (case z => decide))
          case e =>
            intro v t' ys I' oI' C oC D m₂ h tk E' hv hC hx F1 N1
            have hts6 := hts v hv
            obtain ⟨vr, kr, hr, hIr⟩ := I0.row v hv
            have hr5 := fX5 _ hr
            k_steps
            refine Stop.in ?_; k_dflt (refine' LCg.ListComp_U ?fx10 ?ax10 ?bx10 ?cx10 ?dx10 ?ex10 ?_ ?gx10; (case fx10 => k_asm); (case bx10 => decide); (case cx10 => exact rfl); (case dx10 => decide); (case ex10 => exact rfl); (case ax10 => with_unfolding_all exact rfl); (case gx10 => exact fun _ => by simp only [foldedSetIterable]))
            k_steps
            refine Stop.in ?_
            k_dflt (refine' comp_lstU (fun j y => ∃ (a : Nat) (t' : Tok), (into v)[j]? = some a ∧ y = .int ((wys into i sz a : Nat) : Int) t') ?h2 ?F2 ?N2 ?r2 ?z2 ?e2 ?f2; (case h2 => exact rfl); (case F2 => k_asm); (case N2 => k_asm); (case r2 => k_mem); (case z2 => have := hIr.length; have := I0.len v; rw [List.length_map] at *; omega))
            case e2 =>
              intro j vv ys2 I2 oI2 C2 oC2 D2 m2 h2 tk2 E2 hvv hC2 hx2 F2 N2
              obtain ⟨n, tn, rfl, hn⟩ := IntsAre.at hIr j vv hvv
              rw [List.getElem?_map] at hn
              obtain ⟨b, hb, rfl⟩ := Option.map_eq_some_iff.mp hn
              have hbl := I0.low v b (List.mem_of_getElem? hb)
              have hb6 : b < 6 := by omega
              k_steps
              exact Stop.in (EltEnd.mk (by assumption) (by assumption) ⟨b, _, hb, rfl⟩)
            case f2 =>
              intro g2 ys2 hl2 hR2
              have hlr : ys2.length = (into v).length := by rw [hl2, hIr.length, List.length_map]
              have hI2 := ints_of2 (f := fun (b : Nat) => ((wys into i sz b : Nat) : Int)) hlr hR2
              refine finE fun D2 hD2 tkD2 FD2 ND2 lD2 => ?_
              k_steps
              rename News _ _ _ ((D2, _) :: _) => N9
              refine Stop.in (EltEnd.mk (by assumption) (Mine.News.sub N9 fun q h => .tail _ h) ⟨_, congrArg (fun z => Value.int z _) ?_⟩)
              rw [sum_cast]; rfl
          case f =>
            intro g ys hl hR
            have hIw := ints_of hl hR
            clear hR hRg
            refine finE fun D hD tkD FD ND lD => ?_
            have nDW : D ≠ L' + 1 + 1 + 1 := fun e => lD _ hW5 e.symm
            have nDT : D ≠ tg := fun e => lD _ hz5 e.symm
            have nDs : D ≠ Is := fun e => lD _ hI5' e.symm
            k_steps
            rename News _ _ _ ((_, _) :: off _ ((D, _) :: X₅)) => N9
            exact MyTurn.next (by assumption) N9 (.tail _ (mem_off (.tail _ hI5') nsW)) (fun q h => nomatch h) ⟨rfl, rfl, rfl, fun q h n1 n2 => mem_off (.tail _ (mem_off (.tail _ (c5 q h n1 n2)) n2)) (hIs q (up4 q h n1 n2)),
              ⟨_, D, ys, _, mem_off (.head _) nsW.symm, by assumption, nDT, nDW, mem_off (.tail _ (mem_off (.head _) nDW)) nDs, hIw⟩, _, _, mem_off (.tail _ (mem_off (.tail _ hz5) nTW.symm)) nsI.symm, hI5⟩
end
theorem anew8 : (0 : Nat) = 0 := by
  first | walk1 | rfl
section
local macro_rules | `(tactic| walk_at $s:str) => if ["eval ListComp", "CompSrc", "FinE", "EltEnd"].contains s.getString then `(tactic| (refine Stop.out ?_)) else Lean.Macro.throwUnsupported
local macro_rules | `(tactic| walk_at "subscriptTail") => `(tactic| (first | walk_at "subI" | (refine Stop.out ?_)))
/-- a contract whose argument lies in the ground heap -/
def SpecH (lv : Nat) (w : World) (f : Addr) (vs : List Value) (X : List (Addr × Obj)) (H : Heap → Prop) (Post : Value → List (Addr × Obj) → Prop) : Prop :=
  ∀ (loose : List Str) (mean : ExcName → Option Value) (mg mb : Str → Option Value) (dp un : Nat) (gd : Option (List Code)) (cn : Str) (cs : Scope) (a : Addr) (ccd : Value) (cl : List (Str × Addr)) (outer : List Env) (A₀ : Around) (base h₀ : Heap) (L : Addr) (m : Str → Option Value) (s : Shared)
    (Q E : Value → Shared → Prop), H h₀ →
    Below A₀ base outer h₀ → Fr h₀ L s.heap m → (topF.heap_1 w.params).In h₀ → News h₀ L s.heap X → Top vw loose mean mg mb h₀ → cs.kind = .function → dp + 10 * lv < 400 → un + 50 * lv < 4000 →
    (∀ r X' h' tk', Fr h₀ L h' m → News h₀ L h' X' → Post r X' → Q r { s with heap := h', toks := tk' }) →
    wpAny (model PySem.Challenge.rw_mq0314_01.row.prog w) (ktrTop dp un gd cn cs L a ccd cl outer) (call (.ref f) vs) Q E s
theorem SpecH.use {lv : Nat} {w : World} {f : Addr} {vs : List Value} {X : List (Addr × Obj)} {H : Heap → Prop} {Post : Value → List (Addr × Obj) → Prop} {loose : List Str} {mean : ExcName → Option Value} {mg mb : Str → Option Value} {dp un : Nat} {gd : Option (List Code)} {cn : Str} {cs : Scope} {a : Addr} {ccd : Value} {cl : List (Str × Addr)} {outer : List Env} {A₀ : Around} {base h₀ : Heap} {L : Addr} {m : Str → Option Value} {s : Shared}
    {Q E : Value → Shared → Prop} (C : SpecH lv w f vs X H Post) (hH : H h₀) (B : Below A₀ base outer h₀) (F : Fr h₀ L s.heap m) (KX : (topF.heap_1 w.params).In h₀) (N : News h₀ L s.heap X) (T : Top vw loose mean mg mb h₀) (hk : cs.kind = .function) (hdp : dp + 10 * lv < 400) (hun : un + 50 * lv < 4000)
    (ret : ∀ r X' h' tk', Fr h₀ L h' m → News h₀ L h' X' → Post r X' → Q r { s with heap := h', toks := tk' }) :
    wpAny (model PySem.Challenge.rw_mq0314_01.row.prog w) (ktrTop dp un gd cn cs L a ccd cl outer) (call (.ref f) vs) Q E s := C _ _ _ _ _ _ _ _ _ _ _ _ _ _ _ _ _ _ _ _ _ hH B F KX N T hk hdp hun ret
theorem ints_all : ∀ {vs : List Value}, (∀ v ∈ vs, ∃ n t, v = Value.int n t) → ∃ ns, IntsAre vs ns
  | [], _ => ⟨[], .nil⟩
  | v :: vs, h => by
    obtain ⟨n, t, rfl⟩ := h v (.head _)
    obtain ⟨ns, hn⟩ := ints_all (vs := vs) fun v hv => h v (.tail _ hv)
    exact ⟨n :: ns, .cons n t hn⟩
theorem ints_mem {vs : List Value} {ns : List Int} (h : IntsAre vs ns) : ∀ v ∈ vs, ∃ n t, v = Value.int n t := fun v hv => by
  obtain ⟨i, hi⟩ := List.getElem?_of_mem hv
  obtain ⟨n, t, e, _⟩ := IntsAre.at h i v hi
  exact ⟨n, t, e⟩
theorem ints_pick {vs : List Value} {ns : List Int} (h : IntsAre vs ns) (lo hi st : Option Int) : ∃ ms, IntsAre (slicePick vs.toArray lo hi st).toList ms :=
  ints_all fun v hv => by
    unfold slicePick at hv
    simp only [List.mem_filterMap] at hv
    obtain ⟨j, _, e⟩ := hv
    exact ints_mem h v (List.mem_of_getElem? (by simpa using e))
theorem ints_prop {P : Int → Prop} : ∀ {ys : List Value}, (∀ (i : Nat) (y : Value), ys[i]? = some y → ∃ (c : Int) (t : Tok), y = Value.int c t ∧ P c) → ∃ ns, IntsAre ys ns ∧ ∀ n ∈ ns, P n
  | [], _ => ⟨[], .nil, fun _ h => nomatch h⟩
  | y :: ys, h => by
    obtain ⟨c, t, rfl, hc⟩ := h 0 y rfl
    obtain ⟨ns, hn, hp⟩ := ints_prop (ys := ys) fun i y e => h (i + 1) y e
    refine ⟨c :: ns, .cons c t hn, fun n hn => ?_⟩
    rcases List.mem_cons.mp hn with rfl | hn
    · exact hc
    · exact hp n hn
section
variable {prog : Program} {w : World} {A : Around} {E : Value → Shared → Prop} {s : Shared} {h₀ : Heap} {L : Addr} {m : Str → Option Value}
theorem sum_any {l : Addr} {its : Array Value} {k : Nat} {X : List (Addr × Obj)} {Q : Value → Shared → Prop} (hh : A.handled = none) (F : Fr h₀ L s.heap m) (N : News h₀ L s.heap X) (hm : (l, ({ cls := .type "list", data := .seq its k } : Obj)) ∈ X) (hi : ∃ ms, IntsAre its.toList ms)
    (h : ∀ c h' tk t', Fr h₀ L h' m → News h₀ L h' X → Q (.int c t') { s with heap := h', toks := tk }) : wpAny (model prog w) A (call (.builtin "sum") [.ref l]) Q E s := by
  obtain ⟨ms, hms⟩ := hi
  exact LSm.sum_ints (vs := its.toList) F N hh ⟨_, (N _ hm).1, rfl, k, by simp⟩ hms fun h' tk t' F' N' => h _ h' tk t' F' N'
end
local macro_rules | `(tactic| walk_at "call builtin:sum") => `(tactic| (k_here; (with_reducible show wpAny _ _ (call (Value.builtin "sum") [Value.ref _]) _ _ _); k_dflt (refine' sum_any ?h ?F ?N ?m ?i ?_; (case h => exact rfl); (case F => k_asm); (case N => k_asm); (case m => k_mem); (case i => exact ints_pick (by assumption) _ _ _)); intro c' h' tk' t' F' N'))
def fxv : Nat → Int := fun k => [42, 2713, 19, 2906, 9207, 106, 0, 0, 0, 0].getD k 0
theorem cells_spec {w : World} {X : List (Addr × Obj)} {sa : Addr} {vs : List Value} {ns : List Int} (hi : IntsAre vs ns) (hlen : ns.length ≤ 63) :
    SpecH 1 w 153 [.ref sa] X (fun h => h.IsList sa vs.toArray) (fun r X' => (∃ D ys k cs, r = .ref D ∧ (D, listO ys k) ∈ X' ∧ IntsAre ys cs ∧ cs.length = 10 ∧ ∀ c ∈ cs, 0 ≤ c ∧ c < 36 * 2 ^ 32) ∧ ∀ q ∈ X, q ∈ X') := by
  unfold SpecH
  k_fill
  intro loose mean mg mb dp un gd cn cs a ccd cl outer A₀ base h₀ L m s Q E hH B F KX N T hk hdp hun hret
  refine wpAny_call ?_
  walk_at "enterC"
  rename Fr _ _ _ (bindL _ _ _) => FB
  rename News _ _ _ ((_, _) :: (_, _) :: X) => NB
  rename (∀ p ∈ X, p.1 < _) => lX
  rename_i g' L' h' tk' FG' B' X' T' oF oS d1 d2
  have dF : oF.data = .cell none := d1
  have dS : oS.data = .cell (some (.ref sa)) := d2
  have hs : g'.IsList sa vs.toArray := hH.at fun o e => FG'.keep sa o e
  obtain ⟨m9, F9⟩ : ∃ m9, Fr g' L' h' m9 := ⟨_, FB⟩
  clear FB d1 d2
  have nSF : L' + 1 ≠ L' + 1 + 1 := Nat.ne_of_lt (Nat.lt_succ_self _)
  have lcF : ∀ q ∈ X, q.1 ≠ L' + 1 + 1 := fun q hq => Nat.ne_of_lt (Nat.lt_trans (lX q hq) (Nat.lt_succ_of_lt (Nat.lt_succ_self _)))
  k_steps
  rename_i lf _ _ _ l1 hH2 oF2 F2 N2 dF2
  have nfF : L' + 1 + 1 ≠ lf := Nat.ne_of_lt l1.1
  obtain ⟨X2, N3, hF, hS, up, fv, kf, hfx, hIf⟩ : ∃ X2, News g' L' hH2 X2 ∧ (L' + 1 + 1, oF2) ∈ X2 ∧ (L' + 1, oS) ∈ X2 ∧ (∀ q ∈ X, q ∈ X2) ∧ ∃ fv kf, (lf, listO fv kf) ∈ X2 ∧ IntsAre fv ((List.range 10).map fxv) :=
    ⟨_, N2, .head _, .tail _ (mem_off (.tail _ (.tail _ (.head _))) nSF), fun q h => .tail _ (mem_off (.tail _ (.tail _ (.tail _ h))) (lcF q h)), _, _, .tail _ (mem_off (.head _) nfF.symm),
      .cons _ _ (.cons _ _ (.cons _ _ (.cons _ _ (.cons _ _ (.cons _ _ (.cons _ _ (.cons _ _ (.cons _ _ (.cons _ _ .nil)))))))))⟩
  clear N2 l1
  refine Stop.in ?_; k_dflt (refine' LCg.ListComp_U ?fx11 ?ax11 ?bx11 ?cx11 ?dx11 ?ex11 ?_ ?gx11; (case fx11 => k_asm); (case bx11 => decide); (case cx11 => exact rfl); (case dx11 => decide); (case ex11 => exact rfl); (case ax11 => with_unfolding_all exact rfl); (case gx11 => exact fun _ => by simp only [foldedSetIterable]))
  k_steps
  rename IsRange _ _ _ _ _ _ _ _ => hRg
  refine Stop.in ?_
  k_dflt (refine' comp_rng0 (n := 10) (fun i y => ∃ (c : Int) (t' : Tok), y = .int c t' ∧ 0 ≤ c ∧ c < 36 * 2 ^ 32) ?h ?F ?N ?r ?s ?n ?z ?e ?f; (case h => exact rfl); (case F => k_asm); (case N => k_asm); (case r => assumption); (case s => decide); (case n => exact rfl); (case z => decide))
  case e =>
    intro i t' ys I oI C oC D m₂ h tk E' hi10 hC hx F1 N1
    k_steps
    rename News _ _ _ _ => N9
    refine Stop.in (EltEnd.mk (by assumption) (Mine.News.sub N9 fun q h => .tail _ h) ⟨_, _, rfl, Int.fmod_nonneg_of_pos _ (by decide), Int.lt_of_lt_of_le (Int.fmod_lt_of_pos _ (by decide)) (by decide)⟩)
  case f =>
    intro g ys hl hR
    obtain ⟨cs, hcs, hP⟩ := ints_prop (P := fun c => 0 ≤ c ∧ c < 36 * 2 ^ 32) hR
    refine finE fun D hD tkD FD ND lD => ?_
    k_steps
    exact hret _ _ _ _ (by assumption) (by assumption) ⟨⟨D, ys, _, cs, rfl, .head _, hcs, by rw [← hcs.length, hl], hP⟩, fun q hq => .tail _ (up q hq)⟩
end
theorem anew9 : (0 : Nat) = 0 := by
  first | walk1 | rfl
section
local macro_rules | `(tactic| walk_at "exec For") => `(tactic| (k_here; (rename Fr _ _ _ _ => lF'); (with_unfolding_all refine' For_invVF lF' ?k1 ?k2 ?_; (case k1 => exact rfl); (case k2 => exact rfl); k_whole)))
local macro_rules | `(tactic| walk_at "pyIter ref") => `(tactic| (refine Stop.out ?_))
local macro_rules | `(tactic| walk_at "subscriptTail") => `(tactic| (first | walk_at "subR" | (refine Stop.out ?_)))
theorem mono_step {f : Nat → Nat} {n : Nat} (h : ∀ u, u + 1 < n → f u < f (u + 1)) (u : Nat) : ∀ v, u < v → v < n → f u < f v
  | 0, hv, _ => absurd hv (Nat.not_lt_zero _)
  | v + 1, hv, hn => by
    by_cases e : u = v
    · subst e; exact h u hn
    · exact Nat.lt_trans (mono_step h u v (by omega) (by omega)) (h v hn)
def six {α : Type} (a b c d e f : α) : Nat → α
  | 0 => a
  | 1 => b
  | 2 => c
  | 3 => d
  | 4 => e
  | _ => f
theorem into_spec {w : World} {X : List (Addr × Obj)} {ca : Addr} {cs : List Value} {k : Nat} {ns : List Int} (hc : (ca, listO cs k) ∈ X) (hi : IntsAre cs ns) (hlen : ns.length ≤ 10) :
    Spec 1 w 160 [.ref ca] X (fun r X' => (∃ (ta : Addr) (la : Nat → Addr) (ts : List Value) (kt : Nat) (into : Nat → List Nat), r = .ref ta ∧ (ta, listO ts kt) ∈ X' ∧ (∀ v, v < 6 → ts[v]? = some (.ref (la v))) ∧ (∀ v, v < 6 → ∃ vs k, (la v, listO vs k) ∈ X' ∧ IntsAre vs ((into v).map fun (a : Nat) => (a : Int))) ∧ (∀ v, ∀ a ∈ into v, a < v) ∧ ∀ v, (into v).length ≤ 10) ∧ ∀ q ∈ X, q ∈ X') := by
  unfold Spec
  k_fill
  intro loose mean mg mb dp un gd cn cs' a ccd cl outer A₀ base h₀ L m s Q E B F KX N T hk hdp hun hret
  refine wpAny_call ?_
  k_dflt ktr_enter
  k_steps
  rename_i l0 _ q0 l1 _ q1 l2 _ q2 l3 _ q3 l4 _ q4 l5 _ q5 ta _ qt hN FN NN
  have step : ∀ u, u + 1 < 6 → six l0 l1 l2 l3 l4 l5 u < six l0 l1 l2 l3 l4 l5 (u + 1) := fun u hu => by
    have : u = 0 ∨ u = 1 ∨ u = 2 ∨ u = 3 ∨ u = 4 := by omega
    rcases this with rfl | rfl | rfl | rfl | rfl
    · exact q1.1
    · exact q2.1
    · exact q3.1
    · exact q4.1
    · exact q5.1
  have mono := mono_step step
  have hT : ∀ v, v < 6 → six l0 l1 l2 l3 l4 l5 v < ta := fun v hv => by
    by_cases e : v = 5
    · subst e; exact qt.1
    · exact Nat.lt_trans (mono v 5 (by omega) (by omega)) qt.1
  have hX : ∀ v, v < 6 → ∀ q ∈ X, q.1 < six l0 l1 l2 l3 l4 l5 v := fun v hv q hq => by
    by_cases e : v = 0
    · subst e; exact q0 q hq
    · exact Nat.lt_trans (q0 q hq) (mono 0 v (by omega) (by omega))
  obtain ⟨X2, N2, up2, hta, hrow⟩ : ∃ X2, News _ _ hN X2 ∧ (∀ q ∈ X, q ∈ X2) ∧ (ta, listO [.ref l0, .ref l1, .ref l2, .ref l3, .ref l4, .ref l5] 0) ∈ X2 ∧ ∀ v, v < 6 → (six l0 l1 l2 l3 l4 l5 v, listO [] 0) ∈ X2 :=
    ⟨_, NN, fun q h => .tail _ (.tail _ (.tail _ (.tail _ (.tail _ (.tail _ (.tail _ h)))))), .head _, fun v hv => by
      have : v = 0 ∨ v = 1 ∨ v = 2 ∨ v = 3 ∨ v = 4 ∨ v = 5 := by omega
      rcases this with rfl | rfl | rfl | rfl | rfl | rfl
      · exact .tail _ (.tail _ (.tail _ (.tail _ (.tail _ (.tail _ (.head _))))))
      · exact .tail _ (.tail _ (.tail _ (.tail _ (.tail _ (.head _)))))
      · exact .tail _ (.tail _ (.tail _ (.tail _ (.head _))))
      · exact .tail _ (.tail _ (.tail _ (.head _)))
      · exact .tail _ (.tail _ (.head _))
      · exact .tail _ (.head _)⟩
  have hts : ∀ v, v < 6 → [Value.ref l0, .ref l1, .ref l2, .ref l3, .ref l4, .ref l5][v]? = some (.ref (six l0 l1 l2 l3 l4 l5 v)) := fun v hv => by
    have : v = 0 ∨ v = 1 ∨ v = 2 ∨ v = 3 ∨ v = 4 ∨ v = 5 := by omega
    rcases this with rfl | rfl | rfl | rfl | rfl | rfl <;> rfl
  clear NN q0 q1 q2 q3 q4 q5 qt step
  generalize six l0 l1 l2 l3 l4 l5 = la at *
  generalize [Value.ref l0, .ref l1, .ref l2, .ref l3, .ref l4, .ref l5] = ts at *
  refine Stop.in ?_
  k_dflt (refine' iter_lst ["a", "b"] (fun i Xi => (∀ q ∈ X, q ∈ Xi) ∧ (ta, listO ts 0) ∈ Xi ∧ ∃ into : Nat → List Nat, (∀ v, v < 6 → ∃ vs k, (la v, listO vs k) ∈ Xi ∧ IntsAre vs ((into v).map fun (a : Nat) => (a : Int))) ∧ (∀ v, ∀ a ∈ into v, a < v) ∧ ∀ v, (into v).length ≤ i) rfl ?F ?N ?m ?j ?t ?e; (case F => k_asm); (case N => exact N2); (case m => exact up2 _ hc))
  case j => exact ⟨up2, hta, fun _ => [], fun v hv => ⟨[], 0, hrow v hv, .nil⟩, fun v a h => absurd h List.not_mem_nil, fun v => Nat.le_refl _⟩
  case e =>
    rintro um X3 h3 tk3 ⟨up3, hta3, into, hr3, low3, len3⟩ hc3 F3 N3
    have hz := hi.length
    (try dsimp only)
    k_steps
    exact hret _ _ _ _ (by assumption) (by assumption) ⟨⟨ta, la, ts, 0, into, rfl, hta3, hts, hr3, low3, fun v => Nat.le_trans (len3 v) (by omega)⟩, up3⟩
  case t =>
    rintro i vv um X3 h3 tk3 I io lI hvv ⟨up3, hta3, into, hr3, low3, len3⟩ hI3 hc3 F3 N3
    obtain ⟨n, t, rfl, hn⟩ := IntsAre.at hi i vv hvv
    have nIT : I ≠ ta := fun e => hI3 _ hta3 e.symm
    (try dsimp only)
    have ha0 : 0 ≤ n.fmod 6 := Int.fmod_nonneg_of_pos _ (by decide)
    have ha1 : n.fmod 6 < 6 := Int.fmod_lt_of_pos _ (by decide)
    have hb0 : 0 ≤ (n.fdiv 6).fmod 6 := Int.fmod_nonneg_of_pos _ (by decide)
    have hb1 : (n.fdiv 6).fmod 6 < 6 := Int.fmod_lt_of_pos _ (by decide)
    k_steps
    · rename n.fmod 6 ≠ (n.fdiv 6).fmod 6 => hne
      generalize n.fmod 6 = a at *
      generalize (n.fdiv 6).fmod 6 = b at *
      obtain ⟨μ, ν, hμ, hlt, eμ, eν⟩ : ∃ μ ν : Nat, μ < 6 ∧ ν < μ ∧ (if b > a then b else a) = (μ : Int) ∧ (if b < a then b else a) = (ν : Int) :=
        ⟨(if b > a then b else a).toNat, (if b < a then b else a).toNat, by split <;> omega, by split <;> split <;> omega, by split <;> omega, by split <;> omega⟩
      obtain ⟨vs, kk, hrμ, hIμ⟩ := hr3 μ hμ
      have hi10 : i < ns.length := (List.getElem?_eq_some_iff.mp hn).1
      have hvz : vs.length ≤ 1000 := by have h1 := hIμ.length; have h2 := len3 μ; rw [List.length_map] at h1; omega
      have nmI : la μ ≠ I := fun e => hI3 _ hrμ e
      have nmT : la μ ≠ ta := Nat.ne_of_lt (hT μ hμ)
      have hXμ : ∀ q ∈ X, q.1 ≠ la μ := fun q hq => Nat.ne_of_lt (hX μ hμ q hq)
      have hinj : ∀ v, v < 6 → v ≠ μ → la v ≠ la μ := fun v hv hn => by
        rcases Nat.lt_or_gt_of_ne hn with h | h
        · exact Nat.ne_of_lt (mono v μ h hμ)
        · exact (Nat.ne_of_lt (mono μ v h hv)).symm
      rw [eμ]
      refine Stop.in ?_
      k_dflt (refine' item_X ?N ?m ?a0 ?b0 ?x ?_; (case N => k_asm); (case m => k_mem))
      case x => exact hts μ hμ
      case a0 => omega
      case b0 => omega
      k_steps
      rename News _ _ _ ((la μ, _) :: _) => N9
      rw [eν] at N9
      refine MyTurn.next (by assumption) N9 (.tail _ (mem_off (.head _) nmI.symm)) (fun q hq => ?_) ⟨Ag.step rfl (Ag.step rfl Ag.base), fun q hq => mem_off (.tail _ (mem_off (.tail _ (up3 q hq)) (hXμ q hq))) (hI3 q (up3 q hq)), mem_off (.tail _ (mem_off (.tail _ hta3) nmT.symm)) nIT.symm, fun v => if v = μ then into μ ++ [ν] else into v, fun v hv => ?_, fun v c hc => ?_, fun v => ?_⟩
      · rw [List.mem_singleton.mp hq]
        exact .tail _ (mem_off (.tail _ hc3) (hXμ _ hc))
      · dsimp only
        by_cases e : v = μ
        · subst e
          rw [if_pos rfl, List.map_append]
          exact ⟨_, _, mem_off (.head _) nmI, IntsAre.append hIμ (.cons _ _ .nil)⟩
        · rw [if_neg e]
          obtain ⟨vs', k', h1, h2⟩ := hr3 v hv
          exact ⟨vs', k', mem_off (.tail _ (mem_off (.tail _ h1) (hinj v hv e))) (hI3 _ h1), h2⟩
      · dsimp only at hc
        by_cases e : v = μ
        · subst e
          rw [if_pos rfl] at hc
          rcases List.mem_append.mp hc with h | h
          · exact low3 v c h
          · rw [List.mem_singleton.mp h]; exact hlt
        · rw [if_neg e] at hc; exact low3 v c hc
      · have h1 := len3 v
        dsimp only
        by_cases e : v = μ
        · subst e; rw [if_pos rfl, List.length_append, List.length_singleton]; omega
        · rw [if_neg e]; omega
    · rename News _ _ _ _ => N9
      refine MyTurn.next (by assumption) N9 (.head _) (fun q hq => ?_) ⟨Ag.step rfl (Ag.step rfl Ag.base), fun q hq => mem_off (.tail _ (up3 q hq)) (hI3 q (up3 q hq)), mem_off (.tail _ hta3) nIT.symm, into, fun v hv => ?_, low3, fun v => Nat.le_succ_of_le (len3 v)⟩
      · rw [List.mem_singleton.mp hq]
        exact .tail _ hc3
      · obtain ⟨vs', k', h1, h2⟩ := hr3 v hv
        exact ⟨vs', k', mem_off (.tail _ h1) (hI3 _ h1), h2⟩
end
section
theorem dfold : ∀ (l : List Int) (np : Int → Int) (rs : List Int), (∀ u ∈ l, ((l.count u : Nat) : Int) ≤ np u) →
    ∃ news : List Int, l.foldl dstep (np, rs) = (fun u => np u - ((l.count u : Nat) : Int), rs ++ news) ∧ news.Nodup ∧ ∀ u, u ∈ news ↔ u ∈ l ∧ np u = ((l.count u : Nat) : Int)
  | [], np, rs, _ => ⟨[], by simp, .nil, fun u => by simp⟩
  | u :: r, np, rs, h => by
    have hu := h u (.head _)
    rw [List.count_cons_self] at hu
    have hne : ∀ w, w ≠ u → (u :: r).count w = r.count w := fun w hw => List.count_cons_of_ne (Ne.symm hw)
    obtain ⟨nw, e, nd, hm⟩ := dfold r (up np u (np u - 1)) (if np u - 1 = 0 then rs ++ [u] else rs) (fun w hw => by
      by_cases e : w = u
      · subst e; rw [up_self]; omega
      · rw [up_ne _ _ e]
        have := h w (.tail _ hw)
        rw [hne w e] at this; exact this)
    have ef : (fun w => up np u (np u - 1) w - ((r.count w : Nat) : Int)) = fun w => np w - (((u :: r).count w : Nat) : Int) := by
      funext w
      by_cases e : w = u
      · subst e; rw [up_self, List.count_cons_self]; omega
      · rw [up_ne _ _ e, hne w e]
    have e0 : (u :: r).foldl dstep (np, rs) = r.foldl dstep (up np u (np u - 1), if np u - 1 = 0 then rs ++ [u] else rs) := rfl
    rw [e0, e, ef]
    have hmw : ∀ w, w ≠ u → (w ∈ nw ↔ w ∈ r ∧ np w = (((u :: r).count w : Nat) : Int)) := fun w hw => by
      rw [hm w, up_ne _ _ hw, hne w hw]
    have hmu : u ∈ nw ↔ u ∈ r ∧ np u - 1 = ((r.count u : Nat) : Int) := by rw [hm u, up_self]
    by_cases e1 : np u - 1 = 0
    · have c0 : r.count u = 0 := by omega
      have hur : u ∉ r := List.count_eq_zero.mp c0
      have hun : u ∉ nw := fun q => hur (hmu.mp q).1
      refine ⟨u :: nw, by rw [if_pos e1, List.append_assoc]; rfl, List.nodup_cons.mpr ⟨hun, nd⟩, fun w => ?_⟩
      by_cases ew : w = u
      · subst ew
        refine ⟨fun _ => ⟨.head _, by rw [List.count_cons_self, c0]; omega⟩, fun _ => .head _⟩
      · rw [List.mem_cons, hmw w ew, List.mem_cons]
        simp [ew]
    · refine ⟨nw, by rw [if_neg e1], nd, fun w => ?_⟩
      by_cases ew : w = u
      · subst ew
        rw [hmu, List.count_cons_self]
        refine ⟨fun ⟨_, h2⟩ => ⟨.head _, by omega⟩, fun ⟨_, h2⟩ => ⟨?_, by omega⟩⟩
        apply List.count_pos_iff.mp
        omega
      · rw [hmw w ew, List.mem_cons]
        simp [ew]
abbrev nds : List Int := [5, 4, 3, 2, 1, 0]
def intoI (into : Nat → List Nat) (v : Int) : List Int := (into v.toNat).map fun (a : Nat) => (a : Int)
def npF (into : Nat → List Nat) (l : List Int) (v : Int) : Int := if v ∈ l then ((intoI into v).length : Int) else 0
def suF (into : Nat → List Nat) (l : List Int) (u : Int) : List Int := l.flatMap fun v => List.replicate ((intoI into v).count u) v
theorem npF_step {into : Nat → List Nat} {l : List Int} {v : Int} (hv : v ∉ l) : up (npF into l) v (npF into l v + (intoI into v).length) = npF into (l ++ [v]) := by
  funext y
  by_cases e : y = v
  · subst e
    rw [up_self]
    unfold npF
    rw [if_neg hv, if_pos (by simp)]; omega
  · rw [up_ne _ _ e]
    unfold npF
    by_cases h : y ∈ l
    · rw [if_pos h, if_pos (by simp [h])]
    · rw [if_neg h, if_neg (by simp [h, e])]
theorem suF_step {into : Nat → List Nat} {l : List Int} {v : Int} : (fun u => suF into l u ++ List.replicate ((intoI into v).count u) v) = suF into (l ++ [v]) := by
  funext u
  unfold suF
  rw [List.flatMap_append]; simp
theorem intoI_len {into : Nat → List Nat} (h : ∀ v, (into v).length ≤ 10) (v : Int) : (intoI into v).length ≤ 10 := by
  unfold intoI; rw [List.length_map]; exact h _
theorem suF_cons {into : Nat → List Nat} {l : List Int} {u v : Int} : suF into (v :: l) u = List.replicate ((intoI into v).count u) v ++ suF into l u := by
  unfold suF; rw [List.flatMap_cons]
theorem suF_len {into : Nat → List Nat} (h : ∀ v, (into v).length ≤ 10) (u : Int) : ∀ l : List Int, (suF into l u).length ≤ 10 * l.length
  | [] => Nat.le_refl _
  | v :: l => by
    have h1 := suF_len h u l
    have h3 := intoI_len h v
    have h4 : (intoI into v).count u ≤ (intoI into v).length := List.count_le_length
    rw [suF_cons, List.length_append, List.length_replicate, List.length_cons]; omega
theorem suF_mem {into : Nat → List Nat} (hlow : ∀ v, ∀ a ∈ into v, a < v) {l : List Int} (hl : ∀ v ∈ l, 0 ≤ v) {k j : Int} (h : j ∈ suF into l k) : j ∈ l ∧ k < j ∧ k ∈ intoI into j := by
  unfold suF at h
  obtain ⟨v, hv, hj⟩ := List.mem_flatMap.mp h
  obtain ⟨hc, rfl⟩ := List.mem_replicate.mp hj
  have hk : k ∈ intoI into j := List.count_pos_iff.mp (by omega)
  refine ⟨hv, ?_, hk⟩
  obtain ⟨b, hb, rfl⟩ := List.mem_map.mp hk
  have h1 := hlow _ b hb
  have h2 := hl j hv
  omega
theorem suF_count {into : Nat → List Nat} {k j : Int} : ∀ {l : List Int}, l.Nodup → (suF into l k).count j = if j ∈ l then (intoI into j).count k else 0
  | [], _ => by simp [suF]
  | v :: l, h => by
    obtain ⟨h1, h2⟩ := List.nodup_cons.mp h
    rw [suF_cons, List.count_append, suF_count h2, List.count_replicate]
    by_cases e : v = j
    · subst e; simp [h1]
    · have : ¬ j = v := fun q => e q.symm
      simp [e, this]
theorem nds_nodup : nds.Nodup := by decide
theorem nds_rng : ∀ v ∈ nds, 0 ≤ v ∧ v < 6 := by decide
theorem nds_mem {v : Int} (h0 : 0 ≤ v) (h6 : v < 6) : v ∈ nds := by
  have : v = 0 ∨ v = 1 ∨ v = 2 ∨ v = 3 ∨ v = 4 ∨ v = 5 := by omega
  rcases this with rfl | rfl | rfl | rfl | rfl | rfl <;> decide
/-- between the turns of the main loop: ready, waiting, done -/
structure LI (into : Nat → List Nat) (np : Int → Int) (rs ws ds : List Int) : Prop where
  nd : (rs ++ ws ++ ds).Nodup
  rg : ∀ v ∈ rs ++ ws ++ ds, v ∈ nds
  nw : ∀ v ∈ ws, np v = -1
  pre : ∀ v ∈ rs ++ ws ++ ds, ∀ a ∈ intoI into v, a ∈ ds
  oth : ∀ v ∈ nds, v ∉ rs ++ ws ++ ds → np v = (((intoI into v).filter fun a => decide (a ∉ ds)).length : Int) ∧ 0 < np v
theorem li_start {into : Nat → List Nat} {rs : List Int} (hnd : rs.Nodup) (hm : ∀ v, v ∈ rs ↔ v ∈ nds ∧ npF into nds v = 0) : LI into (npF into nds) rs [] [] := by
  refine ⟨by simpa using hnd, fun v hv => ((hm v).mp (by simpa using hv)).1, fun v h => absurd h List.not_mem_nil, fun v hv a ha => ?_, fun v hv hn => ?_⟩
  · obtain ⟨h1, h2⟩ := (hm v).mp (by simpa using hv)
    unfold npF at h2
    rw [if_pos h1] at h2
    have : (intoI into v).length = 0 := by omega
    rw [List.eq_nil_of_length_eq_zero this] at ha
    exact absurd ha List.not_mem_nil
  · have hv' : v ∉ rs := by simpa using hn
    have h0 : npF into nds v ≠ 0 := fun e => hv' ((hm v).mpr ⟨hv, e⟩)
    have e : npF into nds v = ((intoI into v).length : Int) := by unfold npF; rw [if_pos hv]
    rw [e] at h0 ⊢
    have : ((intoI into v).filter fun a => decide (a ∉ ([] : List Int))) = intoI into v := List.filter_eq_self.mpr fun a _ => by simp
    rw [this]
    exact ⟨rfl, by omega⟩
theorem li_get {into : Nat → List Nat} {np : Int → Int} {rs ws ds : List Int} (I : LI into np rs ws ds) : LI into (fun j => if j ∈ rs then -1 else np j) [] (ws ++ rs) ds := by
  have hp : ([] ++ (ws ++ rs) ++ ds).Perm (rs ++ ws ++ ds) := by
    rw [List.nil_append]
    exact (List.perm_append_comm).append_right ds
  refine ⟨hp.nodup_iff.mpr I.nd, fun v hv => I.rg v (hp.mem_iff.mp hv), fun v hv => ?_, fun v hv => I.pre v (hp.mem_iff.mp hv), fun v hv hn => ?_⟩
  · by_cases h : v ∈ rs
    · rw [if_pos h]
    · rw [if_neg h]
      exact I.nw v ((List.mem_append.mp hv).resolve_right h)
  · have hn' : v ∉ rs ++ ws ++ ds := fun q => hn (hp.mem_iff.mpr q)
    have : v ∉ rs := fun q => hn' (List.mem_append_left _ (List.mem_append_left _ q))
    rw [if_neg this]
    exact I.oth v hv hn'
theorem cnt_split {ds : List Int} {v : Int} (hv : v ∉ ds) : ∀ l : List Int, (l.filter fun a => decide (a ∉ ds)).length = (l.filter fun a => decide (a ∉ ds ++ [v])).length + l.count v
  | [] => rfl
  | a :: l => by
    have ih := cnt_split hv l
    by_cases e : a = v
    · subst e
      rw [List.filter_cons_of_pos (by simpa using hv), List.filter_cons_of_neg (by simp), List.count_cons_self, List.length_cons, ih]
      omega
    · rw [List.count_cons_of_ne (fun q => e q)]
      by_cases h : a ∈ ds
      · rw [List.filter_cons_of_neg (by simpa using h), List.filter_cons_of_neg (by simp [h]), ih]
      · rw [List.filter_cons_of_pos (by simpa using h), List.filter_cons_of_pos (by simp [h, e]), List.length_cons, List.length_cons, ih]
        omega
theorem li_done {into : Nat → List Nat} (hlow : ∀ v, ∀ a ∈ into v, a < v) {np : Int → Int} {p q ds : List Int} {v : Int} (I : LI into np [] (p ++ v :: q) ds) :
    ∃ a, a = (suF into nds v).foldl dstep (up np v (-2), []) ∧ LI into a.1 a.2 (p ++ q) (ds ++ [v]) := by
  have hall : ([] ++ (p ++ v :: q) ++ ds).Perm (v :: (p ++ q ++ ds)) := by
    rw [List.nil_append]
    have : (p ++ v :: q).Perm (v :: (p ++ q)) := List.perm_middle
    exact this.append_right ds
  have hnd := hall.nodup_iff.mp I.nd
  obtain ⟨hv1, hnd1⟩ := List.nodup_cons.mp hnd
  have hvds : v ∉ ds := fun h => hv1 (List.mem_append_right _ h)
  have hmem : ∀ w, w ∈ [] ++ (p ++ v :: q) ++ ds ↔ w = v ∨ w ∈ p ++ q ++ ds := fun w => by rw [hall.mem_iff, List.mem_cons]
  have hvn : v ∈ nds := I.rg v ((hmem v).mpr (.inl rfl))
  have hnn : ∀ u ∈ nds, 0 ≤ u := fun u hu => (nds_rng u hu).1
  -- the successors are none of these
  have hsu : ∀ u ∈ suF into nds v, u ∈ nds ∧ u ≠ v ∧ u ∉ [] ++ (p ++ v :: q) ++ ds := fun u hu => by
    obtain ⟨h1, h2, h3⟩ := suF_mem hlow hnn hu
    exact ⟨h1, fun e => by omega, fun h => hvds (I.pre u h v h3)⟩
  have hcnt : ∀ u ∈ nds, (suF into nds v).count u = (intoI into u).count v := fun u hu => by rw [suF_count nds_nodup, if_pos hu]
  have hle : ∀ u ∈ suF into nds v, (((suF into nds v).count u : Nat) : Int) ≤ up np v (-2) u := fun u hu => by
    obtain ⟨h1, h2, h3⟩ := hsu u hu
    rw [up_ne _ _ h2, (I.oth u h1 h3).1, hcnt u h1, cnt_split hvds]
    omega
  obtain ⟨nw, e, nwd, hm⟩ := dfold (suF into nds v) (up np v (-2)) [] hle
  refine ⟨_, rfl, ?_⟩
  rw [e, List.nil_append]
  have hP : (nw ++ (p ++ q) ++ (ds ++ [v])).Perm (nw ++ (v :: (p ++ q ++ ds))) := by
    rw [List.append_assoc]
    refine List.Perm.append_left _ ?_
    rw [← List.append_assoc]
    exact List.perm_append_comm (l₂ := [v])
  have hmem2 : ∀ w, w ∈ nw ++ (p ++ q) ++ (ds ++ [v]) ↔ w ∈ nw ∨ w ∈ [] ++ (p ++ v :: q) ++ ds := fun w => by
    rw [hP.mem_iff, List.mem_append, List.mem_cons, hmem]
  refine ⟨hP.nodup_iff.mpr (List.nodup_append.mpr ⟨nwd, hnd, fun a ha b hb e => ?_⟩), fun w hw => ?_, fun w hw => ?_, fun w hw a ha => ?_, fun w hw hn => ?_⟩
  · subst e
    obtain ⟨h1, _⟩ := (hm a).mp ha
    exact (hsu a h1).2.2 ((hmem a).mpr (List.mem_cons.mp hb))
  · rcases (hmem2 w).mp hw with h | h
    · exact (hsu w ((hm w).mp h).1).1
    · exact I.rg w h
  · have hwv : w ≠ v := fun e => hv1 (List.mem_append_left _ (e ▸ hw))
    have h0 : (suF into nds v).count w = 0 := List.count_eq_zero.mpr fun h => (hsu w h).2.2 ((hmem w).mpr (.inr (List.mem_append_left _ hw)))
    show up np v (-2) w - _ = -1
    rw [up_ne _ _ hwv, h0]
    have : w ∈ p ++ v :: q := by
      rcases List.mem_append.mp hw with h | h
      · exact List.mem_append_left _ h
      · exact List.mem_append_right _ (.tail _ h)
    rw [I.nw w this]; rfl
  · rcases (hmem2 w).mp hw with h | h
    · obtain ⟨h1, h2⟩ := (hm w).mp h
      obtain ⟨h3, h4, h5⟩ := hsu w h1
      rw [up_ne _ _ h4, (I.oth w h3 h5).1, hcnt w h3, cnt_split hvds] at h2
      have h6 : ((intoI into w).filter fun a => decide (a ∉ ds ++ [v])).length = 0 := by omega
      have h7 := List.filter_eq_nil_iff.mp (List.eq_nil_of_length_eq_zero h6) a ha
      exact Classical.byContradiction fun q => h7 (decide_eq_true q)
    · exact List.mem_append_left _ (I.pre w h a ha)
  · have hn1 : w ∉ nw := fun h => hn ((hmem2 w).mpr (.inl h))
    have hn2 : w ∉ [] ++ (p ++ v :: q) ++ ds := fun h => hn ((hmem2 w).mpr (.inr h))
    have hwv : w ≠ v := fun e => hn2 ((hmem w).mpr (.inl e))
    obtain ⟨o1, o2⟩ := I.oth w hw hn2
    have h8 := hcnt w hw
    show up np v (-2) w - _ = _ ∧ 0 < up np v (-2) w - _
    rw [up_ne _ _ hwv, h8]
    have h9 := cnt_split hvds (intoI into w)
    refine ⟨by rw [o1, h9]; omega, ?_⟩
    have h10 : np w ≠ (((suF into nds v).count w : Nat) : Int) ∨ w ∉ suF into nds v := by
      by_cases h : w ∈ suF into nds v
      · exact .inl fun e => hn1 ((hm w).mpr ⟨h, by rw [up_ne _ _ hwv]; exact e⟩)
      · exact .inr h
    rcases h10 with h | h
    · rw [h8] at h; omega
    · have := List.count_eq_zero.mpr h
      rw [h8] at this; omega
theorem li_all {into : Nat → List Nat} (hlow : ∀ v, ∀ a ∈ into v, a < v) {np : Int → Int} {ds : List Int} (I : LI into np [] [] ds) : ds.Nodup ∧ ∀ v, v ∈ ds ↔ v ∈ nds := by
  have e : ([] : List Int) ++ [] ++ ds = ds := rfl
  have hnd := I.nd
  rw [e] at hnd
  refine ⟨hnd, fun v => ⟨fun h => I.rg v (by rw [e]; exact h), fun h => ?_⟩⟩
  obtain ⟨h0, h6⟩ := nds_rng v h
  have main : ∀ n : Nat, n < 6 → (n : Int) ∈ ds := by
    intro n
    induction n using Nat.strongRecOn with
    | ind n ih =>
      intro hn
      by_cases hm : (n : Int) ∈ ds
      · exact hm
      · exfalso
        obtain ⟨o1, o2⟩ := I.oth (n : Int) (nds_mem (by omega) (by omega)) (by rw [e]; exact hm)
        rw [o1] at o2
        have h1 : 0 < ((intoI into (n : Int)).filter fun a => decide (a ∉ ds)).length := by omega
        obtain ⟨a, ha⟩ := List.exists_mem_of_length_pos h1
        obtain ⟨h2, h3⟩ := List.mem_filter.mp ha
        obtain ⟨b, hb, rfl⟩ := List.mem_map.mp h2
        have hbn : b < n := by
          have := hlow _ b hb
          simpa using this
        exact of_decide_eq_true h3 (ih b hbn (by omega))
  have := main v.toNat (by omega)
  rwa [Int.toNat_of_nonneg h0] at this
end
section
theorem tup_ne {xs ys : List Value} {k j : Nat} : tupO xs k ≠ listO ys j := fun e => by
  have h := congrArg Obj.cls e
  have h : Value.type "tuple" = Value.type "list" := h
  injection h with h
  exact absurd h (by decide)
/-- the list of what was told: pairs of a node and its worth -/
def Told (g : Sg) (X : List (Addr × Obj)) (tvs : List Value) (ds : List Int) (W : Nat → Nat) : Prop :=
  ∃ prs : List (Value × Value), prs.length = tvs.length ∧ (∀ (i : Nat) (x y : Value), prs[i]? = some (x, y) → ∃ T k', tvs[i]? = some (Value.ref T) ∧ (T, tupO [x, y] k') ∈ X ∧ ¬ At g T) ∧ prs.length = ds.length ∧
    ∀ (i : Nat) (d : Int), ds[i]? = some d → ∃ t t', prs[i]? = some (Value.int d t, Value.int ((W d.toNat : Nat) : Int) t')
theorem Told.mono {g : Sg} {X Y : List (Addr × Obj)} {tvs : List Value} {ds : List Int} {W : Nat → Nat} (h : Told g X tvs ds W) (up : ∀ q ∈ X, ¬ At g q.1 → (∃ xs k, q.2 = tupO xs k) → q ∈ Y) : Told g Y tvs ds W := by
  obtain ⟨prs, h1, h2, h3, h4⟩ := h
  refine ⟨prs, h1, fun i x y e => ?_, h3, h4⟩
  obtain ⟨T, k', e1, e2, e3⟩ := h2 i x y e
  exact ⟨T, k', e1, up _ e2 e3 ⟨_, _, rfl⟩, e3⟩
theorem Told.snoc {g : Sg} {X : List (Addr × Obj)} {tvs : List Value} {ds : List Int} {W : Nat → Nat} {T : Addr} {k : Nat} {d : Int} {t t' : Tok} (h : Told g X tvs ds W) (hT : (T, tupO [Value.int d t, Value.int ((W d.toNat : Nat) : Int) t'] k) ∈ X) (hA : ¬ At g T) : Told g X (tvs ++ [.ref T]) (ds ++ [d]) W := by
  obtain ⟨prs, h1, h2, h3, h4⟩ := h
  refine ⟨prs ++ [(Value.int d t, Value.int ((W d.toNat : Nat) : Int) t')], by simp [h1], fun i x y e => ?_, by simp [h3], fun i d' e => ?_⟩
  · by_cases hi : i < prs.length
    · rw [List.getElem?_append_left hi] at e
      obtain ⟨T', k', e1, e2⟩ := h2 i x y e
      exact ⟨T', k', by rw [List.getElem?_append_left (by omega)]; exact e1, e2⟩
    · rw [List.getElem?_append_right (by omega)] at e
      have hi0 : i - prs.length = 0 := by
        cases q : i - prs.length with
        | zero => rfl
        | succ j => rw [q] at e; simp at e
      rw [hi0] at e
      have e := Option.some.inj e
      obtain ⟨rfl, rfl⟩ := Prod.mk.inj e
      refine ⟨T, k, ?_, hT, hA⟩
      rw [List.getElem?_append_right (by omega), show i - tvs.length = 0 by omega]; rfl
  · by_cases hi : i < ds.length
    · rw [List.getElem?_append_left hi] at e
      obtain ⟨t, t', e1⟩ := h4 i d' e
      exact ⟨t, t', by rw [List.getElem?_append_left (by omega)]; exact e1⟩
    · rw [List.getElem?_append_right (by omega)] at e
      have hi0 : i - ds.length = 0 := by
        cases q : i - ds.length with
        | zero => rfl
        | succ j => rw [q] at e; simp at e
      rw [hi0] at e
      have e := Option.some.inj e
      subst e
      refine ⟨t, t', ?_⟩
      rw [List.getElem?_append_right (by omega), show i - prs.length = 0 by omega]; rfl
def isAt (a : Nat) (x _y : Value) : Bool := match x with
  | .int d _ => decide (d = ((a : Nat) : Int))
  | _ => false
theorem picked_head {prs : List (Value × Value)} {ds : List Int} {W : Nat → Nat} {a : Nat} (h3 : prs.length = ds.length) (h4 : ∀ (i : Nat) (d : Int), ds[i]? = some d → ∃ t t', prs[i]? = some (Value.int d t, Value.int ((W d.toNat : Nat) : Int) t')) (ha : ((a : Nat) : Int) ∈ ds) :
    ∃ t', (picked (isAt a) prs)[((0 : Int)).toNat]? = some (Value.int ((W a : Nat) : Int) t') := by
  show ∃ t', (picked (isAt a) prs)[0]? = _
  induction ds generalizing prs with
  | nil => exact absurd ha List.not_mem_nil
  | cons d ds ih =>
    cases prs with
    | nil => simp at h3
    | cons q prs =>
      obtain ⟨t, t', e⟩ := h4 0 d rfl
      have e : q = (Value.int d t, Value.int ((W d.toNat : Nat) : Int) t') := Option.some.inj e
      subst e
      by_cases hd : d = ((a : Nat) : Int)
      · subst hd
        refine ⟨t', ?_⟩
        unfold picked
        rw [List.filter_cons_of_pos (by show decide _ = true; exact decide_eq_true rfl)]
        rfl
      · have : picked (isAt a) ((Value.int d t, Value.int ((W d.toNat : Nat) : Int) t') :: prs) = picked (isAt a) prs := by
          unfold picked
          rw [List.filter_cons_of_neg (by show ¬ decide _ = true; rw [decide_eq_false hd]; exact Bool.false_ne_true)]
        rw [this]
        exact ih (by simpa using h3) (fun i d' e => h4 (i + 1) d' e) ((List.mem_cons.mp ha).resolve_left fun e => hd e.symm)
structure LoopF (w : World) (g : Sg) (into : Nat → List Nat) (W : Nat → Nat) (ta oa cA rl tl : Addr) (XK : List (Addr × Obj)) (n : Nat) (m : Str → Option Value) (X : List (Addr × Obj)) (np : Int → Int) (rs ws ds : List Int) (wl : Addr) (wvs tvs rvs : List Value) (wk tk rk : Nat) (lk : Int) (tlk : Tok) : Prop where
  hn : n = 6 - ds.length
  mi : m (Str.ofString "into") = some (.ref ta)
  mo : m (Str.ofString "own") = some (.ref oa)
  ml : m (Str.ofString "luck") = some (.int lk tlk)
  ms : m (Str.ofString "sorter") = some (.ref g.sx)
  mw : m (Str.ofString "waiting") = some (.ref wl)
  mt : m (Str.ofString "told") = some (.ref tl)
  lk0 : 0 ≤ lk
  li : LI into np rs ws ds
  srt : Srt w X g np (suF into nds) (.ref rl) ((ws.length : Int) + (ds.length : Int)) (ds.length : Int)
  hr : (rl, listO rvs rk) ∈ X
  ir : IntsAre rvs rs
  hw : (wl, listO wvs wk) ∈ X
  iw : IntsAre wvs ws
  ht : (tl, listO tvs tk) ∈ X
  told : Told g X tvs ds W
  aW : ¬ At g wl
  nwr : wl ≠ rl
  nwt : wl ≠ tl
  keep : ∀ q ∈ XK, q.1 ≠ cA → q ∈ X
  cell : ∃ o v, (cA, o) ∈ X ∧ o.data = .cell v
theorem LI.few {into : Nat → List Nat} {np : Int → Int} {rs ws ds : List Int} (I : LI into np rs ws ds) : rs.length + ws.length + ds.length ≤ 6 := by
  have h := nodup_le 6 _ I.nd fun k hk => by
    have := nds_rng k (I.rg k hk)
    omega
  rw [List.length_append, List.length_append] at h
  exact h
theorem ints_split {p q : List Value} {x : Value} : ∀ {ns : List Int}, IntsAre (p ++ x :: q) ns → ∃ P v Q t, ns = P ++ v :: Q ∧ x = .int v t ∧ IntsAre p P ∧ IntsAre q Q := by
  induction p with
  | nil =>
    intro ns h
    cases h with
    | cons i t h => exact ⟨[], i, _, t, rfl, rfl, .nil, h⟩
  | cons a p ih =>
    intro ns h
    cases h with
    | cons i t h =>
      obtain ⟨P, v, Q, t', rfl, e, h1, h2⟩ := ih h
      exact ⟨i :: P, v, Q, t', rfl, e, .cons i t h1, h2⟩
theorem list_cut {α : Type} {l : List α} {j : Nat} (h : j < l.length) : ∃ p x q, l = p ++ x :: q ∧ p.length = j :=
  ⟨l.take j, l[j], l.drop (j + 1), by rw [List.getElem_cons_drop, List.take_append_drop], by rw [List.length_take]; omega⟩
end
section
/-- all six told, each once -/
theorem told_six {g : Sg} {X : List (Addr × Obj)} {tvs : List Value} {ds : List Int} {W : Nat → Nat} (h : Told g X tvs ds W) (hnd : ds.Nodup) (hall : ∀ v, v ∈ ds ↔ v ∈ nds) :
    tvs.length = 6 ∧ ∃ da o : Nat → Nat, (∀ j, j < 6 → tvs[j]? = some (Value.ref (da j))) ∧ (∀ j, j < 6 → ∃ t t' k', (da j, tupO [.int (o j : Nat) t, .int ((W (o j) : Nat) : Int) t'] k') ∈ X) ∧ (∀ j, j < 6 → o j < 6) ∧ ∀ i, i < 6 → ∀ j, j < 6 → o i = o j → i = j := by
  have hp : ds.Perm nds := (List.perm_ext_iff_of_nodup hnd nds_nodup).mpr hall
  have hl : ds.length = 6 := hp.length_eq
  obtain ⟨prs, h1, h2, h3, h4⟩ := h
  have hr : ∀ j, j < 6 → 0 ≤ ds.getD j 0 ∧ ds.getD j 0 < 6 ∧ ds[j]? = some (ds.getD j 0) := fun j hj => by
    have e : ds[j]? = some ds[j] := List.getElem?_eq_getElem (by omega)
    have e2 : ds.getD j 0 = ds[j] := by rw [List.getD_eq_getElem?_getD, e]; rfl
    have := nds_rng _ ((hall _).mp (List.mem_of_getElem? e))
    rw [e2]
    exact ⟨this.1, this.2, e⟩
  have one : ∀ j, j < 6 → ∃ T t t' k', tvs[j]? = some (Value.ref T) ∧ (T, tupO [.int (ds.getD j 0) t, .int ((W (ds.getD j 0).toNat : Nat) : Int) t'] k') ∈ X := fun j hj => by
    obtain ⟨-, -, e⟩ := hr j hj
    obtain ⟨t, t', e1⟩ := h4 j _ e
    obtain ⟨T, k', e2, e3, -⟩ := h2 j _ _ e1
    exact ⟨T, t, t', k', e2, e3⟩
  refine ⟨by omega, fun j => match tvs[j]? with | some (.ref T) => T | _ => 0, fun j => (ds.getD j 0).toNat, fun j hj => ?_, fun j hj => ?_, fun j hj => ?_, fun i hi j hj e => ?_⟩
  · obtain ⟨T, t, t', k', e, -⟩ := one j hj
    simp only [e]
  · obtain ⟨T, t, t', k', e, e2⟩ := one j hj
    simp only [e]
    have h0 := (hr j hj).1
    have e3 : (((ds.getD j 0).toNat : Nat) : Int) = ds.getD j 0 := Int.toNat_of_nonneg h0
    rw [e3]
    exact ⟨t, t', k', e2⟩
  · have := hr j hj
    show (ds.getD j 0).toNat < 6
    omega
  · have a := hr i hi
    have b := hr j hj
    have e : (ds.getD i 0).toNat = (ds.getD j 0).toNat := e
    have e2 : ds.getD i 0 = ds.getD j 0 := by omega
    have hi' : i < ds.length := by omega
    have hj' : j < ds.length := by omega
    have ei : ds[i] = ds.getD i 0 := by
      have := a.2.2
      rw [List.getElem?_eq_getElem hi'] at this
      exact Option.some.inj this
    have ej : ds[j] = ds.getD j 0 := by
      have := b.2.2
      rw [List.getElem?_eq_getElem hj'] at this
      exact Option.some.inj this
    exact (List.getElem_inj hnd).mp (by rw [ei, ej, e2])
end
theorem anew10 : (0 : Nat) = 0 := by
  first | walk1 | rfl
section
local macro_rules | `(tactic| k_qdec) => `(tactic| decide +kernel)
local macro_rules | `(tactic| k_in) => `(tactic| (exact Frag.In.keeps (by k_asm) (Fr.keep (by k_asm))))
local macro_rules | `(tactic| walk_at $s:str) => if ["eval ListComp", "exec Assign cons ListComp", "CompSrc", "FinE", "FinA", "PairSrc", "TstEnd", "EltEnd", "exec For", "exec For Name List cons nil", "exec For Name Subscript cons nil", "exec While", "pyIter ref", "call builtin:list.pop", "call builtin:sorted", "EltEndG", "compareOp Eq ref ref"].contains s.getString then `(tactic| (refine Stop.out ?_)) else Lean.Macro.throwUnsupported
local macro_rules | `(tactic| walk_at "eval Call Attribute") => `(tactic| ((with_reducible show wpAny _ _ (eval (Expr.Call (Expr.Attribute _ _ _) (_ :: Expr.Starred _ _ :: _) _ _) _) _ _ _); k_here; k_dflt (refine meth_star ?_)))
local macro_rules | `(tactic| walk_at "callWith ref") => `(tactic| ((with_reducible show wpAny _ _ (callWith _ (Value.ref _) _ (backTo _ (starEach (_ :: Expr.Starred _ _ :: _) _)) []) _ _ _); refine Stop.out ?_))
local macro_rules | `(tactic| walk_at "getAttr ref") => `(tactic| (k_here; (with_reducible show wpAny _ _ (getAttr (Value.ref _) (Str.ofString "add") _) _ _ _); k_dflt (refine' kbm_bound ?k1 ?k2 ?k3 ?k4 ?k5 ?k6 ?k7 ?k8 ?k9 ?k10 ?k11 ?k12 ?_; (case k4 => k_inst); (case k1 => k_asm); (case k2 => k_asm); (case k7 => k_is); (case k3 => k_asm); (case k5 => k_is); (case k6 => k_is); (case k8 => k_is); (case k9 => k_is); (case k10 => k_is); (case k11 => decide +kernel); (case k12 => k_get)); intro q' h' F' N' l1))
local macro_rules | `(tactic| walk_at "StarOf ref") => `(tactic| (k_here; k_dflt (refine' star_seq ?k1 ?k2 ?m ?c ?d ?T ?e ?z ?_; (case k1 => k_asm); (case k2 => k_asm); (case m => k_mem); (case c => exact rfl); (case d => exact rfl); (case T => exact .inl rfl); (case e => exact rfl); (case z => (rw [List.size_toArray, sizeLine_eq]; omega))); intro h' F' N'; try dsimp only [List.nil_append, List.cons_append]))
local macro_rules | `(tactic| walk_at "subscriptTail") => `(tactic| ((with_reducible show wpAny _ _ (subscriptTail _ _ (Value.ref _) (Value.int _ _)) _ _ _); first
  | (k_dflt (refine' item_X ?N ?m ?a ?b ?x ?_; (case N => k_asm); (case m => k_mem); (case x => with_reducible assumption); (case a => omega); (case b => omega)))
  | (k_dflt (refine' sub_ints ?N ?m ?i ?l ?z ?_; (case N => k_asm); (case m => k_mem); (case i => with_reducible assumption); (case l => first | with_reducible assumption | omega); (case z => decide)); intro t')
  | (refine Stop.out ?_)))
local macro_rules | `(tactic| walk_at "call ref") => `(tactic| ((first
  | (with_reducible show wpAny _ _ (call (Value.ref 153) _) _ _ _)
  | (with_reducible show wpAny _ _ (call (Value.ref 160) _) _ _ _)
  | (with_reducible show wpAny _ _ (call (Value.ref 175) _) _ _ _)
  | (with_reducible show wpAny _ _ (call (Value.ref 94) _) _ _ _)
  | (with_reducible show wpAny _ _ (call (Value.ref 99) _) _ _ _)
  | (with_reducible show wpAny _ _ (call (Value.ref 113) _) _ _ _)
  | (with_reducible show wpAny _ _ (call (Value.ref 106) _) _ _ _)
  | (with_reducible show wpAny _ _ (call (Value.ref 127) _) _ _ _)
  | (with_reducible show wpAny _ _ (call (Value.ref _) (Value.int _ _ :: _)) _ _ _)
  | (with_reducible show wpAny _ _ (call (Value.ref _) ([] ++ Value.int _ _ :: _)) _ _ _)); refine Stop.out ?_))
local macro_rules | `(tactic| walk_at "binaryOp Add ref ref") => `(tactic| (k_here; k_dflt (refine' add_X ?F ?N ?a ?b ?z ?_; (case F => k_asm); (case N => k_asm); (case a => k_mem); (case b => k_mem); (case z => omega)); intro D' h' F' N' l1))
theorem cell_off {h : Heap} {h₀ : Heap} {L a c : Addr} {X : List (Addr × Obj)} {vs : List Value} {k : Nat} {o : Obj} {v : Option Value} (N : News h₀ L h X) (hc : (c, o) ∈ X) (ho : o.data = .cell v) (ha : (a, listO vs k) ∈ X) : a ≠ c := fun e => by
  have h1 := (N _ ha).1
  rw [e, (N _ hc).1] at h1
  have h2 : o = listO vs k := Option.some.inj h1
  rw [h2] at ho
  cases ho
theorem tup_cell {h : Heap} {h₀ : Heap} {L c : Addr} {X : List (Addr × Obj)} {o : Obj} {v : Option Value} (N : News h₀ L h X) (hc : (c, o) ∈ X) (ho : o.data = .cell v) {q : Addr × Obj} (hq : q ∈ X) (e : ∃ xs j, q.2 = tupO xs j) : q.1 ≠ c := fun e1 => by
  obtain ⟨xs, j, e2⟩ := e
  have h1 := (N _ hq).1
  rw [e1, (N _ hc).1, e2] at h1
  have h2 : o = tupO xs j := Option.some.inj h1
  rw [h2] at ho
  cases ho
theorem tup_off {h : Heap} {h₀ : Heap} {L a : Addr} {X : List (Addr × Obj)} {vs : List Value} {k : Nat} (N : News h₀ L h X) (ha : (a, listO vs k) ∈ X) {q : Addr × Obj} (hq : q ∈ X) (e : ∃ xs j, q.2 = tupO xs j) : q.1 ≠ a := fun e1 => by
  obtain ⟨xs, j, e2⟩ := e
  have h1 := (N _ hq).1
  rw [e1, (N _ ha).1, e2] at h1
  exact tup_ne (Option.some.inj h1).symm
def ownN (cs : List Int) (i : Nat) : Nat := ((cs.getD i 0).fdiv 36).toNat
theorem own_elt {cs : List Int} {i : Nat} {c : Int} (hb : ∀ c ∈ cs, 0 ≤ c ∧ c < 36 * 2 ^ 32) (hc : (cs.take 6)[i]? = some c) : c.fdiv 36 = ((ownN cs i : Nat) : Int) := by
  have h1 : cs[i]? = some c := by
    rw [List.getElem?_take] at hc
    split at hc
    · exact hc
    · cases hc
  have h2 := hb c (List.mem_of_getElem? h1)
  unfold ownN
  rw [List.getD_eq_getElem?_getD, h1]
  have h3 : 0 ≤ c.fdiv 36 := Int.fdiv_nonneg h2.1 (by decide)
  show c.fdiv 36 = (((c.fdiv 36).toNat : Nat) : Int)
  omega
theorem own_big {cs : List Int} (hb : ∀ c ∈ cs, 0 ≤ c ∧ c < 36 * 2 ^ 32) (i : Nat) : ownN cs i < 2 ^ 32 := by
  unfold ownN
  rw [List.getD_eq_getElem?_getD]
  cases e : cs[i]? with
  | none => show ((0 : Int).fdiv 36).toNat < _; decide
  | some c =>
    have h2 := hb c (List.mem_of_getElem? e)
    show (c.fdiv 36).toNat < _
    rw [Int.fdiv_eq_ediv_of_nonneg _ (by decide)]
    omega
theorem map_at6 {m : Str → Option Value} {x x2 x3 x4 x5 x6 : Str} {v v2 v3 v4 v5 v6 : Value} (h : m x = some v) (h2 : m x2 = some v2) (h3 : m x3 = some v3) (h4 : m x4 = some v4) (h5 : m x5 = some v5) (h6 : m x6 = some v6) :
    m = fun y => if y = x then some v else if y = x2 then some v2 else if y = x3 then some v3 else if y = x4 then some v4 else if y = x5 then some v5 else if y = x6 then some v6 else m y := by
  funext y
  by_cases e : y = x
  · rw [if_pos e, e, h]
  rw [if_neg e]
  by_cases e : y = x2
  · rw [if_pos e, e, h2]
  rw [if_neg e]
  by_cases e : y = x3
  · rw [if_pos e, e, h3]
  rw [if_neg e]
  by_cases e : y = x4
  · rw [if_pos e, e, h4]
  rw [if_neg e]
  by_cases e : y = x5
  · rw [if_pos e, e, h5]
  rw [if_neg e]
  by_cases e : y = x6
  · rw [if_pos e, e, h6]
  rw [if_neg e]
theorem map_at8 {m : Str → Option Value} {x x2 x3 x4 x5 x6 x7 x8 : Str} {v v2 v3 v4 v5 v6 v7 v8 : Value} (h : m x = some v) (h2 : m x2 = some v2) (h3 : m x3 = some v3) (h4 : m x4 = some v4) (h5 : m x5 = some v5) (h6 : m x6 = some v6) (h7 : m x7 = some v7) (h8 : m x8 = some v8) :
    m = fun y => if y = x then some v else if y = x2 then some v2 else if y = x3 then some v3 else if y = x4 then some v4 else if y = x5 then some v5 else if y = x6 then some v6 else if y = x7 then some v7 else if y = x8 then some v8 else m y := by
  funext y
  by_cases e : y = x
  · rw [if_pos e, e, h]
  rw [if_neg e]
  by_cases e : y = x2
  · rw [if_pos e, e, h2]
  rw [if_neg e]
  by_cases e : y = x3
  · rw [if_pos e, e, h3]
  rw [if_neg e]
  by_cases e : y = x4
  · rw [if_pos e, e, h4]
  rw [if_neg e]
  by_cases e : y = x5
  · rw [if_pos e, e, h5]
  rw [if_neg e]
  by_cases e : y = x6
  · rw [if_pos e, e, h6]
  rw [if_neg e]
  by_cases e : y = x7
  · rw [if_pos e, e, h7]
  rw [if_neg e]
  by_cases e : y = x8
  · rw [if_pos e, e, h8]
  rw [if_neg e]
theorem lawx : PySem.Challenge.rw_mq0314_01.Holds := by
  refine holds_law said0 fun said => ?_
  refine holds_open (q := vw) (loose := [Str.ofString "_NodeInfo"]) (Xt := (fun s => xlAt vw [] s && recOk (RowW.records (OpenRow.toRowW (OpenLaw.row PySem.Challenge.rw_mq0314_01))) s)) (XP := XL vw []) (Yf := Hook.obs (kHook topF.heap_1 [2, 3, 15, 17, 18, 20, 21, 22, 24, 25, 27, 28, 36, 37, 39, 40, 42, 43, 44, 46, 47, 48, 49, 50, 53, 60, 61, 62, 63, 73, 74, 76, 77, 79, 80, 81, 83, 84, 86, 87, 88, 90, 91, 93, 94, 95, 98, 99, 100, 102, 103, 105, 106, 107, 109, 110, 112, 113, 114, 116, 117, 119, 120, 121, 123, 124, 126, 127, 128, 130, 131, 133, 134, 135, 137, 138, 140, 141, 142, 143, 144, 145, 146, 149, 152, 153, 154, 156, 157, 159, 160, 161, 164, 165, 166, 169, 170, 171, 174, 175, 176, 179, 180] (fun _ => by kernel_rfl))) (Ya := Hook.val (kHook topF.heap_1 [2, 3, 15, 17, 18, 20, 21, 22, 24, 25, 27, 28, 36, 37, 39, 40, 42, 43, 44, 46, 47, 48, 49, 50, 53, 60, 61, 62, 63, 73, 74, 76, 77, 79, 80, 81, 83, 84, 86, 87, 88, 90, 91, 93, 94, 95, 98, 99, 100, 102, 103, 105, 106, 107, 109, 110, 112, 113, 114, 116, 117, 119, 120, 121, 123, 124, 126, 127, 128, 130, 131, 133, 134, 135, 137, 138, 140, 141, 142, 143, 144, 145, 146, 149, 152, 153, 154, 156, 157, 159, 160, 161, 164, 165, 166, 169, 170, 171, 174, 175, 176, 179, 180] (fun _ => by kernel_rfl))) (YP := Hook.says (kHook topF.heap_1 [2, 3, 15, 17, 18, 20, 21, 22, 24, 25, 27, 28, 36, 37, 39, 40, 42, 43, 44, 46, 47, 48, 49, 50, 53, 60, 61, 62, 63, 73, 74, 76, 77, 79, 80, 81, 83, 84, 86, 87, 88, 90, 91, 93, 94, 95, 98, 99, 100, 102, 103, 105, 106, 107, 109, 110, 112, 113, 114, 116, 117, 119, 120, 121, 123, 124, 126, 127, 128, 130, 131, 133, 134, 135, 137, 138, 140, 141, 142, 143, 144, 145, 146, 149, 152, 153, 154, 156, 157, 159, 160, 161, 164, 165, 166, 169, 170, 171, 174, 175, 176, 179, 180] (fun _ => by kernel_rfl))) (N := 2632) left0 (Hook.of (kHook topF.heap_1 [2, 3, 15, 17, 18, 20, 21, 22, 24, 25, 27, 28, 36, 37, 39, 40, 42, 43, 44, 46, 47, 48, 49, 50, 53, 60, 61, 62, 63, 73, 74, 76, 77, 79, 80, 81, 83, 84, 86, 87, 88, 90, 91, 93, 94, 95, 98, 99, 100, 102, 103, 105, 106, 107, 109, 110, 112, 113, 114, 116, 117, 119, 120, 121, 123, 124, 126, 127, 128, 130, 131, 133, 134, 135, 137, 138, 140, 141, 142, 143, 144, 145, 146, 149, 152, 153, 154, 156, 157, 159, 160, 161, 164, 165, 166, 169, 170, 171, 174, 175, 176, 179, 180] (fun _ => by kernel_rfl))) (Hook.keeps (kHook topF.heap_1 [2, 3, 15, 17, 18, 20, 21, 22, 24, 25, 27, 28, 36, 37, 39, 40, 42, 43, 44, 46, 47, 48, 49, 50, 53, 60, 61, 62, 63, 73, 74, 76, 77, 79, 80, 81, 83, 84, 86, 87, 88, 90, 91, 93, 94, 95, 98, 99, 100, 102, 103, 105, 106, 107, 109, 110, 112, 113, 114, 116, 117, 119, 120, 121, 123, 124, 126, 127, 128, 130, 131, 133, 134, 135, 137, 138, 140, 141, 142, 143, 144, 145, 146, 149, 152, 153, 154, 156, 157, 159, 160, 161, 164, 165, 166, 169, 170, 171, 174, 175, 176, 179, 180] (fun _ => by kernel_rfl))) (fun s e => xl_of s (Bool.and_eq_true_iff.mp e).1) XL.keeps (by rfl) (by rfl) (by rfl) (fun s e => recFacts_of (Bool.and_eq_true_iff.mp e).2) (by rfl) (by first | assumption | decide +kernel) (by decide +kernel) ⟨rfl, rfl, rfl, rfl, rfl, by decide +kernel⟩ ?hw ?hc
  (case hw => w_witness2)
  clear said
  k_go0
  rename IntsAre _ _ => hI
  rename ¬ ((63 : Nat) : Int) < _ => hlen
  rename Frag.In _ _ => KX
  rename Top _ _ _ _ _ _ => T
  rename Below _ _ _ _ => B0
  rename Fr _ _ _ _ => F0
  rename News _ _ _ _ => N0
  rename Heap.IsList _ _ _ => hL
  k_fold
  k_steps
  refine Stop.in ?_
  rename_i w s₀ s₁ mg mb _ _ fa _ _ _ _ _ _ _ _ _ _ _ _ _ _ _ wcd _ ns _ _ _ _ _ _ _ sa vs _ _ _ _ _ _ _ h₁ tk₁ oD oA dD dA _
  obtain ⟨vD, dD⟩ : ∃ v, oD.data = .cell v := ⟨_, dD⟩
  obtain ⟨vA, dA⟩ : ∃ v, oA.data = .cell v := ⟨_, dA⟩
  rename Heap.CodeRec _ _ _ => hcd
  rename Flt.MathXP _ _ _ => hmx
  clear hcd hmx
  k_dflt (refine' SpecH.use (cells_spec hI (by omega)) ?H ?B ?F ?K ?N ?T ?hk ?d ?u ?_; (case H => exact hL); (case B => k_asm); (case F => k_asm); (case K => k_asm); (case N => exact N0); (case T => k_asm); (case hk => exact rfl); (case d => first | omega | decide); (case u => first | omega | decide))
  rintro r X1 h2 tk2 F1 N1 ⟨⟨ca, cv, kc, cs, rfl, hca, hcs, hcl, hcb0⟩, up1⟩
  have hWlt : ∀ (into : Nat → List Nat), (∀ v, ∀ a ∈ into v, a < v) → ∀ a, Wv (ownN cs) into a < 2 ^ 32 := fun into hin => Wv_lt hin (own_big hcb0)
  have hD1 := up1 _ (.head _)
  have hA1 := up1 _ (.tail _ (.head _))
  clear up1
  (try dsimp only)
  k_steps
  have C2 := into_spec (w := w) hca hcs (by omega)
  refine Stop.in ?_; k_dflt (refine' Spec.use ?Cx12 ?Bx12 ?Fx12 ?Kx12 ?Nx12 ?Tx12 ?hkx12 ?dx12 ?ux12 ?_; (case Cx12 => assumption); (case Bx12 => k_asm); (case Fx12 => k_asm); (case Kx12 => k_asm); (case Nx12 => k_asm); (case Tx12 => k_asm); (case hkx12 => first | exact rfl | assumption); (case dx12 => first | omega | ((try simp only [depth_under_make, depth_under_kw, depth_in1, depth_deeper, depth_caller]); (try dsimp only [ktrTop]); omega)); (case ux12 => first | omega | ((try simp only [units_in1, units_deeper, Around.mark_units, units_caller]); (try dsimp only [ktrTop]); omega)))
  rintro r X2 h3 tk3 F2 N2 ⟨⟨ta, la, ts, kt, into, rfl, hta, hts, hrow, hlow, hlenI⟩, up2⟩
  have hca2 := up2 _ hca
  have hD2 := up2 _ hD1
  have hA2 := up2 _ hA1
  have offC : ∀ {a vs k}, (a, listO vs k) ∈ X2 → a ≠ s₁.heap.objs.size + 1 := fun h => cell_off N2 hA2 dA h
  have offE : ∀ {a vs k}, (a, listO vs k) ∈ X2 → a ≠ s₁.heap.objs.size + 1 + 1 := fun h => cell_off N2 hD2 dD h
  clear up2 C2
  (try dsimp only)
  k_steps
  refine Stop.in ?_; k_dflt (refine' LCg.Assign_ListComp_U ?fx13 ?lx13 ?swx13 ?ax13 ?bx13 ?cx13 ?dx13 ?ex13 ?yx13 ?px13 ?_ ?gx13; (case fx13 => k_asm); (case lx13 => exact rfl); (case swx13 => with_unfolding_all exact rfl); (case bx13 => decide); (case cx13 => exact rfl); (case dx13 => decide); (case ex13 => exact rfl); (case yx13 => exact rfl); (case px13 => exact rfl); (case ax13 => with_unfolding_all exact rfl); (case gx13 => exact fun _ => by simp only [foldedSetIterable]))
  k_steps
  rename IntsAre _ (List.take 6 cs) => hI6
  have hl6 : (List.take 6 cs).length = 6 := by rw [List.length_take, hcl]; rfl
  refine Stop.in ?_
  k_dflt (refine' comp_lstU (fun i y => ∃ t', y = .int ((ownN cs i : Nat) : Int) t') ?ch1 ?cF1 ?cN1 ?cr1 ?cz1 ?ce1 ?cf1; (case ch1 => exact rfl); (case cF1 => k_asm); (case cN1 => k_asm); (case cr1 => k_mem); (case cz1 => rw [hI6.length, hl6]; decide))
  case ce1 =>
    intro i v ys I oI C oC D m₂ h tk E' hv hC hx F1 N1
    obtain ⟨c, tc, rfl, hc⟩ := IntsAre.at hI6 i v hv
    k_steps
    exact Stop.in (EltEnd.mk (by assumption) (by assumption) ⟨_, congrArg (fun z => Value.int z _) (own_elt hcb0 hc)⟩)
  case cf1 =>
    intro g ys hl hR
    have hIo : IntsAre ys ((List.range 6).map fun i => ((ownN cs i : Nat) : Int)) := ints_of (hl.trans (hI6.length.trans hl6)) hR
    clear hR
    refine finA fun oa hO tkO FO NO lO => ?_
    have lO1 := hI.length
    k_steps
    rename Heap => h5
    rename Fr _ _ _ _ => F9
    rename News _ _ _ _ => N9
    rename Obj.IsDictOf (intKind _ _) _ [] => hdict
    rename (_ == sysModules) = false => hlo
    rename (_ ∧ _ ∧ _ ∧ AllLt _ X2) => lA
    rename (_ ∧ _ ∧ _ ∧ _ ∧ _ ∧ AllLt _ X2) => lB
    rename @LT.lt Nat _ _ _ => lC
    obtain ⟨sx, dx, n2, X5, m5, lk, tlk, F5, e1, e2, e3, e4, hlk, N5, S5, hX5⟩ : ∃ (sx dx n2 : Addr) (X5 : List (Addr × Obj)) (m5 : Str → Option Value) (lk : Int) (tlk : Tok), Fr s₁.heap s₁.heap.objs.size h5 m5 ∧ m5 (Str.ofString "into") = some (.ref ta) ∧ m5 (Str.ofString "own") = some (.ref oa) ∧ m5 (Str.ofString "luck") = some (.int lk tlk) ∧ m5 (Str.ofString "sorter") = some (.ref sx) ∧ 0 ≤ lk ∧
        News s₁.heap s₁.heap.objs.size h5 X5 ∧ Srt w X5 ⟨sx, dx, n2, [], fun _ => 0, fun _ => 0, fun _ => 0⟩ (npF into []) (suF into []) .none 0 0 ∧ ∀ q ∈ (oa, listO ys ys.length) :: X2, q ∈ X5 ∧ q.1 < dx ∧ q.1 < sx ∧ q.1 < n2 := by
      refine ⟨_, _, _, _, _, _, _, F9, rfl, rfl, rfl, rfl, Int.fmod_nonneg_of_pos _ (by decide), N9, ⟨.tail _ (.head _), ⟨_, _, _, _, _, _, .tail _ (.tail _ (.head _))⟩, ⟨_, .head _, hdict⟩, fun _ h => absurd h List.not_mem_nil, fun _ h => absurd h List.not_mem_nil, fun _ h => absurd h List.not_mem_nil, .nil, fun _ h => absurd h List.not_mem_nil, hlo, ?_, fun _ _ => ⟨rfl, rfl⟩⟩, ?_⟩
      · have no : ∀ {P : Int → Prop}, ∀ k ∈ ([] : List Int), P k := fun _ h => absurd h List.not_mem_nil
        exact ⟨Nat.ne_of_gt lC, Nat.ne_of_lt lB.1, Nat.ne_of_lt lB.2.1, no, no, no, no, no, no, no, no, no, no, no, no, no, no⟩
      · intro q hq
        have hq1 : q.1 < _ := (List.mem_cons.mp hq).elim (fun e => by rw [e]; exact lA.2.1) fun h => kst_ltOf lA.2.2.2 q h
        refine ⟨?_, hq1, Nat.lt_trans hq1 lC, Nat.lt_trans hq1 lB.2.1⟩
        rcases List.mem_cons.mp hq with rfl | hq
        · exact .tail _ (.tail _ (.tail _ (.tail _ (.head _))))
        · exact .tail _ (.tail _ (.tail _ (.tail _ (.tail _ (.tail _ hq)))))
    clear F9 N9 hdict hlo lA lB lC
    rw [map_at4 e1 e2 e3 e4] at F5
    refine Stop.in ?_
    k_dflt (refine' For_invVF F5 ?fk1 ?fk2 ?_ ?fk3; (case fk1 => exact rfl); (case fk2 => exact rfl); (case fk3 => exact fun _ => by simp only [foldedSetIterable]))
    k_steps
    rename_i nl hN FN NN lN
    obtain ⟨nv, hnl, hND⟩ : ∃ nv, (nl, listO nv 0) ∈ (nl, listO nv 0) :: X5 ∧ IntsAre nv [5, 4, 3, 2, 1, 0] ∧ News s₁.heap s₁.heap.objs.size hN ((nl, listO nv 0) :: X5) := ⟨_, .head _, .cons _ _ (.cons _ _ (.cons _ _ (.cons _ _ (.cons _ _ (.cons _ _ .nil))))), NN⟩
    obtain ⟨hND, NN2⟩ := hND
    clear NN
    have hXK : ∀ q ∈ (nl, listO nv 0) :: (oa, listO ys ys.length) :: X2, q ∈ (nl, listO nv 0) :: X5 ∧ ¬ At ⟨sx, dx, n2, [], fun _ => 0, fun _ => 0, fun _ => 0⟩ q.1 := fun q hq => by
      rcases List.mem_cons.mp hq with rfl | hq
      · refine ⟨.head _, fun h => ?_⟩
        exact absurd (At.lt S5 lN h) (Nat.lt_irrefl _)
      · obtain ⟨h1, h2, h3, h4⟩ := hX5 q hq
        refine ⟨.tail _ h1, fun h => ?_⟩
        rcases h with e | e | e | ⟨k, hk, _⟩
        · exact Nat.ne_of_lt h3 e
        · exact Nat.ne_of_lt h2 e
        · exact Nat.ne_of_lt h4 e
        · exact absurd hk List.not_mem_nil
    have hrng : ∀ n : Int, n ∈ ([5, 4, 3, 2, 1, 0] : List Int) → 0 ≤ n ∧ n < 6 := by decide
    refine Stop.in ?_
    k_dflt (refine' iter_lst [] (fun i Xi => ∃ g : Sg, g.sx = sx ∧ Srt w Xi g (npF into ([5, 4, 3, 2, 1, 0].take i)) (suF into ([5, 4, 3, 2, 1, 0].take i)) .none 0 0 ∧ (∀ v ∈ ([5, 4, 3, 2, 1, 0] : List Int).take i, v ∈ g.ks) ∧ ∀ q ∈ (nl, listO nv 0) :: (oa, listO ys ys.length) :: X2, q ∈ Xi ∧ ¬ At g q.1) rfl ?iF NN2 hnl ?ij ?it ?ie; (case iF => k_asm))
    case ij => exact ⟨_, rfl, S5.still fun q h _ => .tail _ h, fun v h => absurd h List.not_mem_nil, hXK⟩
    case ie =>
      rintro um X6 h6 tk6 ⟨g, hsx, S6, hks6, hK6⟩ hnl6 F6 N6
      subst hsx
      rw [hND.length, List.take_length] at S6 hks6
      have inst6 := S6.inst
      obtain ⟨t1, t2, t3, t4, tp, tf, attr6⟩ := S6.attr
      (try dsimp only)
      k_steps
      have Cp := prepare_spec S6 (outer := []) (frs := []) trivial (fun q h => absurd h List.not_mem_nil) (fun b _ => List.not_mem_nil) (fun k _ j hj => by
        obtain ⟨h1, h2, _⟩ := suF_mem hlow (fun v hv => (hrng v hv).1) hj
        exact ⟨hks6 j h1, h2⟩)
      refine Stop.in ?_
      k_dflt (refine' SpecU.use Cp ?pF ?pK N6 ?pT ?phk ?pd ?pu ?_; (case pF => k_asm); (case pK => k_asm); (case pT => k_asm); (case phk => exact rfl); (case pd => first | omega | decide); (case pu => first | omega | decide))
      rintro r X7 frs7 h7 tk7 F7 N7 SU7 hin7 ⟨rfl, rl, rv7, rn, hrX, hrA, hrl7, hrI, S7, up7⟩
      (try dsimp only)
      k_steps
      rename_i wl0 _ lW _ _ tl _ lT hS FS NS
      have hrX2 : ∀ q ∈ (oa, listO ys ys.length) :: X2, q.1 ≠ rl := fun q hq => hrX q (hK6 q (.tail _ hq)).1
      have up8 : ∀ q ∈ (oa, listO ys ys.length) :: X2, q ∈ X7 := fun q hq => up7 q (hK6 q (.tail _ hq)).1 (hK6 q (.tail _ hq)).2 List.not_mem_nil
      have hlT : ∀ q ∈ X7, q.1 < tl := fun q hq => kst_ltOf lT.2 q hq
      have hAT : ¬ At g tl := fun h => absurd (At.lt S7 hlT h) (Nat.lt_irrefl _)
      have hAW : ¬ At g wl0 := fun h => absurd (At.lt S7 lW h) (Nat.lt_irrefl _)
      have hKA : ∀ q ∈ (oa, listO ys ys.length) :: X2, ¬ At g q.1 ∧ q.1 ≠ rl ∧ q.1 ≠ tl := fun q hq => ⟨(hK6 q (.tail _ hq)).2, hrX2 q hq, Nat.ne_of_lt (hlT q (up8 q hq))⟩
      have nrt : rl ≠ tl := Nat.ne_of_lt (hlT _ hrl7)
      have hLI : LI into (npF into nds) (g.ks.filter fun k => decide (npF into nds k = 0)) [] [] := li_start (S7.nd.filter _) fun v => by
        rw [List.mem_filter]
        exact ⟨fun h => ⟨nds_mem (S7.rng v h.1).1 (S7.rng v h.1).2, of_decide_eq_true h.2⟩, fun h => ⟨hks6 v h.1, decide_eq_true h.2⟩⟩
      have hLF : ∃ m8 X8 np rs ws ds wl wvs tvs rvs wk tk rk lk tlk, Fr s₁.heap s₁.heap.objs.size hS m8 ∧ News s₁.heap s₁.heap.objs.size hS X8 ∧ LoopF w g into (Wv (ownN cs) into) ta oa (s₁.heap.objs.size + 1) rl tl ((oa, listO ys ys.length) :: X2) 6 m8 X8 np rs ws ds wl wvs tvs rvs wk tk rk lk tlk := by
        refine ⟨_, _, npF into nds, _, [], [], wl0, [], [], rv7, 0, 0, rn, lk, tlk, FS, NS, ⟨rfl, rfl, rfl, rfl, rfl, rfl, rfl, hlk, hLI, S7.still fun q hq _ => .tail _ (.tail _ hq), .tail _ (.tail _ hrl7), hrI, .tail _ (.head _), .nil, .head _, ⟨[], rfl, fun i x y e => by simp at e, rfl, fun i d e => by simp at e⟩, hAW, (Nat.ne_of_lt (lW _ hrl7)).symm, Nat.ne_of_lt lT.1, fun q hq _ => .tail _ (.tail _ (up8 q hq)), ⟨_, _, .tail _ (.tail _ (up8 _ (.tail _ hA2))), dA⟩⟩⟩
      obtain ⟨m8, X8, hLF⟩ := hLF
      obtain ⟨np, rs, ws, ds, wl, wvs, tvs, rvs, wk, tk, rk, lk8, tlk8, F8, N9, hLF⟩ := hLF
      clear FS NS
      refine Stop.in ?_
      refine While_J (fun n m' X' => ∃ np rs ws ds wl wvs tvs rvs wk tk rk lk tlk, LoopF w g into (Wv (ownN cs) into) ta oa (s₁.heap.objs.size + 1) rl tl ((oa, listO ys ys.length) :: X2) n m' X' np rs ws ds wl wvs tvs rvs wk tk rk lk tlk) 6 F8 N9 ⟨_, _, _, _, _, _, _, _, _, _, _, _, _, hLF⟩ ?_
      clear hLF F8 N9
      clear np rs ws ds wl wvs tvs rvs wk tk rk lk8 tlk8 m8 X8
      rintro n m₁ X₁ h₁ tk₁ F₁ N₁ ⟨np, rs, ws, ds, wl, wvs, tvs, rvs, wk, tk, rk, lk8, tlk8, I⟩
      have S := I.srt
      have inst := S.inst
      obtain ⟨u1, u2, u3, u4, up, uf, attr⟩ := S.attr
      have few := I.li.few
      have lrv := I.ir.length
      have lwv := I.iw.length
      have hr := I.hr
      rw [map_at6 I.mi I.mo I.ml I.ms I.mw I.mt] at F₁
      k_steps
      have Ca := is_active_spec S I.hr (by omega)
      refine Stop.in ?_; k_dflt (refine' Spec.use ?Cx14 ?Bx14 ?Fx14 ?Kx14 ?Nx14 ?Tx14 ?hkx14 ?dx14 ?ux14 ?_; (case Cx14 => assumption); (case Bx14 => k_asm); (case Fx14 => k_asm); (case Kx14 => k_asm); (case Nx14 => k_asm); (case Tx14 => k_asm); (case hkx14 => first | exact rfl | assumption); (case dx14 => first | omega | ((try simp only [depth_under_make, depth_under_kw, depth_in1, depth_deeper, depth_caller]); (try dsimp only [ktrTop]); omega)); (case ux14 => first | omega | ((try simp only [units_in1, units_deeper, Around.mark_units, units_caller]); (try dsimp only [ktrTop]); omega)))
      rintro r Xa ha tka Fa Na ⟨rfl, rfl⟩
      (try dsimp only)
      k_steps
      · skip
        rename (decide _ || decide _) = true => hT
        have hpos : 0 < wvs.length + rvs.length := by
          rcases (Bool.or_eq_true _ _).mp hT with h | h
          · have := of_decide_eq_true h; omega
          · have h := of_decide_eq_true h
            have := List.length_pos_iff.mpr h
            omega
        have hlw : (wvs ++ rvs).length ≤ 6 ∧ 0 < (wvs ++ rvs).length := by rw [List.length_append]; omega
        have hAC : ¬ At g (s₁.heap.objs.size + 1) ∧ s₁.heap.objs.size + 1 ≠ rl ∧ s₁.heap.objs.size + 1 ≠ tl := hKA _ (.tail _ hA2)
        have C1 := get_ready_spec S I.hr I.ir (fun k hk => hks6 k (I.li.rg k (List.mem_append_left _ (List.mem_append_left _ hk)))) (by omega) hrA
        refine Stop.in ?_; k_dflt (refine' Spec.use ?Cx15 ?Bx15 ?Fx15 ?Kx15 ?Nx15 ?Tx15 ?hkx15 ?dx15 ?ux15 ?_; (case Cx15 => assumption); (case Bx15 => k_asm); (case Fx15 => k_asm); (case Kx15 => k_asm); (case Nx15 => k_asm); (case Tx15 => k_asm); (case hkx15 => first | exact rfl | assumption); (case dx15 => first | omega | ((try simp only [depth_under_make, depth_under_kw, depth_in1, depth_deeper, depth_caller]); (try dsimp only [ktrTop]); omega)); (case ux15 => first | omega | ((try simp only [units_in1, units_deeper, Around.mark_units, units_caller]); (try dsimp only [ktrTop]); omega)))
        rintro r Xb hb tkb Fb Nb ⟨D1, kb, rfl, hD1, hrb, Sb, keepb, lDb⟩
        have hwb : (wl, listO wvs wk) ∈ Xb := keepb _ I.hw I.aW I.nwr
        have htb : (tl, listO tvs tk) ∈ Xb := keepb _ I.ht hAT nrt.symm
        have toldb : Told g Xb tvs ds (Wv (ownN cs) into) := I.told.mono fun q hq h1 h2 => keepb q hq h1 (tup_off Na hr hq h2)
        have keepK : ∀ q ∈ (oa, listO ys ys.length) :: X2, q.1 ≠ s₁.heap.objs.size + 1 → q ∈ Xb := fun q hq h => keepb q (I.keep q hq h) (hKA q hq).1 (hKA q hq).2.1
        obtain ⟨oc, vc, hc, dc⟩ := I.cell
        have hcb := keepb _ hc hAC.1 hAC.2.1
        have htvl : tvs.length = ds.length := by obtain ⟨prs, p1, _, p3, _⟩ := I.told; omega
        have tupE : ∀ q ∈ Xb, (∃ xs j, q.2 = tupO xs j) → q.1 ≠ rl ∧ q.1 ≠ tl ∧ q.1 ≠ s₁.heap.objs.size + 1 := fun q hq e => ⟨tup_off Nb hrb hq e, tup_off Nb htb hq e, tup_cell Nb hcb dc hq e⟩
        have hf0 : 0 ≤ lk8.fmod ((wvs ++ rvs).length : Int) := Int.fmod_nonneg_of_pos _ (by omega)
        have hf1 : lk8.fmod ((wvs ++ rvs).length : Int) < ((wvs ++ rvs).length : Int) := Int.fmod_lt_of_pos _ (by omega)
        obtain ⟨pvs, xv, qvs, hsp, hpl⟩ := list_cut (l := wvs ++ rvs) (j := (lk8.fmod ((wvs ++ rvs).length : Int)).toNat) (by omega)
        have hIwr : IntsAre (wvs ++ rvs) (ws ++ rs) := IntsAre.append I.iw I.ir
        rw [hsp] at hIwr
        obtain ⟨P, nd, Q, tn, hsp2, rfl, hIp, hIq⟩ := ints_split hIwr
        have lig := li_get I.li
        rw [hsp2] at lig
        have hnd := lig.rg nd (by simp)
        have hndr := nds_rng nd hnd
        obtain ⟨v, rfl⟩ : ∃ v : Nat, nd = (v : Int) := ⟨nd.toNat, by omega⟩
        have hv6 : v < 6 := by omega
        have hvk : (v : Int) ∈ g.ks := hks6 _ hnd
        obtain ⟨rv, kr, hrv, hIrv⟩ := hrow v hv6
        have hcO : (ta, listO ts kt) ∈ Xb ∧ (oa, listO ys ys.length) ∈ Xb ∧ (la v, listO rv kr) ∈ Xb := ⟨keepK _ (.tail _ hta) (offC hta), keepK _ (.head _) (fun e => lO (s₁.heap.objs.size + 1, oA) (.tail _ hA2) e.symm), keepK _ (.tail _ hrv) (offC hrv)⟩
        obtain ⟨htab, hoab, hrvb⟩ := hcO
        have htsv : ts[((v : Nat) : Int).toNat]? = some (Value.ref (la v)) := hts v hv6
        (try dsimp only)
        k_steps
        rename (∀ q ∈ (_, listO rvs _) :: Xb, q.1 < _) => l10
        rename News _ _ _ ((_, listO (wvs ++ rvs) 0) :: (_, listO rvs _) :: _) => Nx
        rename Fr _ _ _ _ => F10
        rename_i D3 _ _ _ _
        rw [hsp] at Nx
        have hlp : (pvs ++ Value.int (v : Int) tn :: qvs).length ≤ 100000 := by rw [← hsp]; omega
        refine Stop.in ?_
        k_dflt (refine' popAt_X ?pF Nx (.head _) ?pi hlp ?_; (case pF => exact F10); (case pi => omega))
        intro h11 F11 N11
        have N12 : News s₁.heap s₁.heap.objs.size h11 ((D3, listO (pvs ++ qvs) (0 + 1)) :: Xb) := fun q hq => N11 q (by
          rcases List.mem_cons.mp hq with rfl | hq
          · exact .head _
          · exact .tail _ (mem_off (.tail _ (.tail _ hq)) (Nat.ne_of_lt (l10 q (.tail _ hq)))))
        clear N11
        have l12 : ∀ q ∈ Xb, q.1 < D3 := fun q hq => l10 q (.tail _ hq)
        have toldD : Told g ((D3, listO (pvs ++ qvs) (0 + 1)) :: Xb) tvs ds (Wv (ownN cs) into) := toldb.mono fun q hq _ _ => .tail _ hq
        have hAD : ¬ At g D3 := fun h => absurd (At.lt Sb l12 h) (Nat.lt_irrefl _)
        k_steps
        refine Stop.in ?_
        rename Fr _ _ _ _ => F13
        rename News _ _ _ _ => N13
        rename_i t13 _
        k_dflt (refine' For_invTF F13 ?_ ?_)
        case refine'_2 => exact fun _ => by simp only [foldedSetIterable]
        k_steps
        refine Stop.in ?_
        have hlI := hlenI v
        have hIrl := hIrv.length
        rw [List.length_map] at hIrl
        have hnC := hAC.2
        have nCD : s₁.heap.objs.size + 1 ≠ D3 := Nat.ne_of_lt (l12 _ hcb)
        k_dflt (refine' iter_lstT (fun i m' X' => m' (Str.ofString "into") = some (.ref ta) ∧ m' (Str.ofString "own") = some (.ref oa) ∧ (∃ lk' tk', m' (Str.ofString "luck") = some (.int lk' tk') ∧ 0 ≤ lk') ∧ m' (Str.ofString "sorter") = some (.ref g.sx) ∧ m' (Str.ofString "waiting") = some (.ref D3) ∧ m' (Str.ofString "told") = some (.ref tl) ∧ m' (Str.ofString "node") = some (.int ((v : Nat) : Int) tn) ∧
          (∃ t', m' (Str.ofString "worth") = some (.int ((((into v).take i).foldl (fun w a => w ^^^ crcN 8 (Wv (ownN cs) into a)) (ownN cs v) : Nat) : Int) t')) ∧ (∀ q ∈ (D3, listO (pvs ++ qvs) (0 + 1)) :: Xb, q.1 ≠ s₁.heap.objs.size + 1 → q ∈ X') ∧ ∃ o v, (s₁.heap.objs.size + 1, o) ∈ X' ∧ o.data = .cell v) rfl ?nF ?nN ?nl ?nj ?nt ?nd; (case nF => exact F13); (case nN => exact N13); (case nl => exact .tail _ hrvb))
        case nj => exact ⟨rfl, rfl, ⟨_, _, rfl, Int.fdiv_nonneg I.lk0 (by omega)⟩, rfl, rfl, rfl, rfl, ⟨_, rfl⟩, fun q h _ => h, _, _, .tail _ hcb, dc⟩
        case nd =>
          rintro m₂ X₂ h14 tk14 ⟨e1, e2, ⟨lk', tlk', e3, hlk'⟩, e4, e5, e6, e7, ⟨tw, e8⟩, keep2, o2, v2, hc2, d2⟩ hrv2 F14 N14
          rw [map_at8 e1 e2 e3 e4 e5 e6 e7 e8] at F14
          have ht2 : (tl, listO tvs _) ∈ X₂ := keep2 _ (.tail _ htb) hnC.2.symm
          have hw2 := keep2 _ (.head _) nCD.symm
          have S2 := Sb.still (X' := X₂) fun q h hA => keep2 q (.tail _ h) fun e => hAC.1 (e ▸ hA)
          have inst2 := S2.inst
          obtain ⟨a1, a2, a3, a4, ap, af, attr2⟩ := S2.attr
          have nST : g.sx ≠ tl := fun e => hAT (e ▸ .sx)
          have nDT : g.dx ≠ tl := fun e => hAT (e ▸ .dx)
          have lT2 : ∀ q ∈ X₂, q.1 < h14.objs.size := fun q hq => Heap.lt_size (N14 q hq).1
          have hATn : ¬ At g h14.objs.size := fun h => absurd (At.lt S2 lT2 h) (Nat.lt_irrefl _)
          have nTt : h14.objs.size ≠ tl := Ne.symm (Nat.ne_of_lt (lT2 _ ht2))
          have hr2 : (rl, listO [] kb) ∈ X₂ := keep2 _ (.tail _ hrb) hnC.1.symm
          have nDt : D3 ≠ tl := Ne.symm (Nat.ne_of_lt (l12 _ htb))
          have nDr : D3 ≠ rl := Ne.symm (Nat.ne_of_lt (l12 _ hrb))
          (try dsimp only)
          k_steps
          rename Fr _ _ _ _ => F15
          rename News _ _ _ _ => N15
          rename Heap => h15
          have eW : ((into v).take rv.length).foldl (fun w a => w ^^^ crcN 8 (Wv (ownN cs) into a)) (ownN cs v) = Wv (ownN cs) into v := by
            rw [hIrl, List.take_length, Wv_eq hlow]
          rw [eW] at N15
          obtain ⟨X3, k3, hX3a, hX3b, hX3c, N16⟩ : ∃ (X3 : List (Addr × Obj)) (k3 : Nat), (tl, listO (tvs ++ [Value.ref h14.objs.size]) k3) ∈ X3 ∧ (h14.objs.size, tupO [Value.int ((v : Nat) : Int) tn, Value.int ((Wv (ownN cs) into v : Nat) : Int) tw] 0) ∈ X3 ∧ (∀ q ∈ X₂, q.1 ≠ tl → q ∈ X3) ∧ News s₁.heap s₁.heap.objs.size h15 X3 := ⟨_, _, .head _, .tail _ (mem_off (.head _) nTt), fun q hq h => .tail _ (mem_off (.tail _ hq) h), N15⟩
          clear N15
          have S3 := S2.still (X' := X3) fun q h hA => hX3c q h fun e => hAT (e ▸ hA)
          have C3 := done_spec (t := tn) S3 (hX3c _ hr2 nrt) .nil (Nat.zero_le _) hrA hvk (lig.nw _ (by simp)) (fun u hu => hks6 u (suF_mem hlow (fun v hv => (hrng v hv).1) hu).1) (Nat.le_trans (suF_len hlenI _ _) (by decide))
          refine Stop.in ?_; k_dflt (refine' Spec.use ?Cx16 ?Bx16 ?Fx16 ?Kx16 ?Nx16 ?Tx16 ?hkx16 ?dx16 ?ux16 ?_; (case Cx16 => assumption); (case Bx16 => k_asm); (case Fx16 => k_asm); (case Kx16 => k_asm); (case Nx16 => k_asm); (case Tx16 => k_asm); (case hkx16 => first | exact rfl | assumption); (case dx16 => first | omega | ((try simp only [depth_under_make, depth_under_kw, depth_in1, depth_deeper, depth_caller]); (try dsimp only [ktrTop]); omega)); (case ux16 => first | omega | ((try simp only [units_in1, units_deeper, Around.mark_units, units_caller]); (try dsimp only [ktrTop]); omega)))
          rintro r X4 h16 tk16 F16 N17 ⟨rfl, ad, had, S4, ⟨rv4, rk4, hr4, hI4⟩, keep4⟩
          obtain ⟨ad', had', li4⟩ := li_done hlow lig
          obtain rfl : ad = ad' := had.trans had'.symm
          (try dsimp only)
          k_steps
          have hlen1 : ws.length + rs.length = P.length + (Q.length + 1) := by
            have := congrArg List.length hsp2
            simpa [List.length_append] using this
          have eP : (ws.length : Int) + (ds.length : Int) + (rs.length : Int) = ((P ++ Q).length : Int) + ((ds ++ [(v : Int)]).length : Int) := by
            simp only [List.length_append, List.length_cons, List.length_nil]; omega
          have eF : (ds.length : Int) + 1 = ((ds ++ [(v : Int)]).length : Int) := by
            simp only [List.length_append, List.length_cons, List.length_nil]; omega
          rw [eP, eF] at S4
          have up34 : ∀ q ∈ X₂, q.1 ≠ tl → ¬ At g q.1 → q.1 ≠ rl → q ∈ X4 := fun q hq h1 h2 h3 => keep4 q (hX3c q hq h1) h2 h3
          have told4 : Told g X4 (tvs ++ [Value.ref h14.objs.size]) (ds ++ [(v : Int)]) (Wv (ownN cs) into) := by
            refine (toldb.mono fun q hq hA e => ?_).snoc (keep4 _ hX3b hATn (Ne.symm (Nat.ne_of_lt (lT2 _ hr2)))) hATn
            obtain ⟨q1, q2, q3⟩ := tupE q hq e
            exact up34 q (keep2 q (.tail _ hq) q3) q2 hA q1
          refine WStep.next F16 N17 ?_ ⟨ad.1, ad.2, P ++ Q, ds ++ [(v : Int)], D3, pvs ++ qvs, tvs ++ [Value.ref h14.objs.size], rv4, _, _, _, lk', tlk', ⟨rfl, rfl, rfl, rfl, rfl, rfl, rfl, hlk', li4, S4, hr4, hI4, up34 _ hw2 nDt hAD nDr, hIp.append hIq, keep4 _ hX3a hAT nrt.symm, told4, hAD, nDr, nDt, fun q hq h => up34 q (keep2 q (.tail _ (keepK q hq h)) h) (hKA q hq).2.2 (hKA q hq).1 (hKA q hq).2.1, ⟨o2, v2, up34 _ hc2 hnC.2 hAC.1 hnC.1, d2⟩⟩⟩
          have := I.hn
          rw [List.length_append, List.length_singleton]
          omega
        case nt =>
          rintro i xa m₂ X₂ s₂ J jo lJ hxa ⟨e1, e2, ⟨lk', tlk', e3, hlk'⟩, e4, e5, e6, e7, ⟨tw, e8⟩, keep2, o2, v2, hc2, d2⟩ offJ hrv2 F14 N14
          rw [map_at8 e1 e2 e3 e4 e5 e6 e7 e8] at F14
          have ht2 : (tl, listO tvs _) ∈ X₂ := keep2 _ (.tail _ htb) hnC.2.symm
          obtain ⟨ai, ta2, rfl, hai⟩ := IntsAre.at hIrv i xa hxa
          rw [List.getElem?_map] at hai
          obtain ⟨a, hav, rfl⟩ := Option.map_eq_some_iff.mp hai
          have nJC : J ≠ s₁.heap.objs.size + 1 := fun e => offJ _ hc2 e.symm
          obtain ⟨prs, p1, p2, p3, p4⟩ := toldb
          have hads : ((a : Nat) : Int) ∈ ds := lig.pre (v : Int) (by simp) _ (List.mem_map.mpr ⟨a, List.mem_of_getElem? hav, rfl⟩)
          obtain ⟨tp, hpick⟩ := picked_head p3 p4 hads
          have hplen := picked_len (isAt a) prs
          have p5 : ∀ (i : Nat) (x y : Value), prs[i]? = some (x, y) → ∃ d t t', x = Value.int d t ∧ y = Value.int ((Wv (ownN cs) into d.toNat : Nat) : Int) t' := fun i x y e => by
            have hi : i < ds.length := by rw [← p3]; exact (List.getElem?_eq_some_iff.mp e).1
            obtain ⟨t, t', e2⟩ := p4 i _ (List.getElem?_eq_getElem hi)
            rw [e] at e2
            obtain ⟨rfl, rfl⟩ := Prod.mk.inj (Option.some.inj e2)
            exact ⟨_, _, _, rfl, rfl⟩
          k_steps
          rename Fr _ _ _ _ => F17
          rename News _ _ _ _ => N18
          rename (_ = Data.cell (some (Value.int _ ta2))) => d17
          rename Obj => o18
          refine Stop.in ?_
          k_dflt (refine' comp_pairs F17 ?qc ?qe ?qk ?qn ?qa ?qb ?qab ?_ ?qs; (case qc => exact rfl); (case qe => decide); (case qk => exact rfl); (case qn => decide); (case qa => exact rfl); (case qb => exact rfl); (case qab => decide); (case qs => exact fun _ => by simp only [foldedSetIterable]))
          k_steps
          refine Stop.in ⟨tl, tvs, _, prs, isAt a, _, rfl, rfl, F17, N18, .tail _ (mem_off (.tail _ ht2) hnC.2.symm), by omega, p1, fun i x y e => ?_, ?qtst, ?qelt, ?qfin⟩
          · obtain ⟨T', k', h1, h2, h3⟩ := p2 i x y e
            have hne := (tupE _ h2 ⟨_, _, rfl⟩).2.2
            exact ⟨T', k', h1, .tail _ (mem_off (.tail _ (keep2 _ (.tail _ h2) hne)) hne)⟩
          case qtst =>
            intro j x y zs J2 oJ2 C oC D m₃ h tk E' e hC hx hy F3 N3
            obtain ⟨d, t, t', rfl, rfl⟩ := p5 j x y e
            k_steps
            exact Stop.in (TstEnd.mk (by assumption) (by assumption) rfl)
          case qelt =>
            intro j x y zs J2 oJ2 C oC D m₃ h tk E' e hp hC hx hy F3 N3
            obtain ⟨d, t, t', rfl, rfl⟩ := p5 j x y e
            k_steps
            exact Stop.in (EltEnd.mk (by assumption) (by assumption) rfl)
          case qfin =>
            intro D h tk FD ND lD
            first | walk1 | (leave1; try dsimp only)
            first | walk1 | (leave1; try dsimp only)
            first | walk1 | (leave1; try dsimp only)
            first | walk1 | (leave1; try dsimp only)
            refine Stop.out ?_
            have C8 := gen_crc_spec (w := w) (X := (D, listO (picked (isAt a) prs) (picked (isAt a) prs).length) :: (s₁.heap.objs.size + 1, o18) :: off (s₁.heap.objs.size + 1) ((J, jo) :: X₂)) (n := Wv (ownN cs) into a) (t := tp) (hWlt _ hlow a)
            refine Stop.in ?_; k_dflt (refine' Spec.use ?Cx17 ?Bx17 ?Fx17 ?Kx17 ?Nx17 ?Tx17 ?hkx17 ?dx17 ?ux17 ?_; (case Cx17 => assumption); (case Bx17 => k_asm); (case Fx17 => k_asm); (case Kx17 => k_asm); (case Nx17 => k_asm); (case Tx17 => k_asm); (case hkx17 => first | exact rfl | assumption); (case dx17 => first | omega | ((try simp only [depth_under_make, depth_under_kw, depth_in1, depth_deeper, depth_caller]); (try dsimp only [ktrTop]); omega)); (case ux17 => first | omega | ((try simp only [units_in1, units_deeper, Around.mark_units, units_caller]); (try dsimp only [ktrTop]); omega)))
            rintro r X5' h18 tk18 F18 N19 ⟨⟨tr, rfl⟩, up8'⟩
            (try dsimp only)
            k_steps
            rename Fr _ _ _ _ => F19
            rename News _ _ _ _ => N20
            have up5 : ∀ q ∈ X₂, q.1 ≠ s₁.heap.objs.size + 1 → q ∈ X5' := fun q hq h => up8' q (.tail _ (.tail _ (mem_off (.tail _ hq) h)))
            have hJ5 : (J, jo) ∈ X5' := up8' _ (.tail _ (.tail _ (mem_off (.head _) nJC)))
            have hC5 := up8' _ (.tail _ (.head _))
            have eS : ((into v).take (i + 1)).foldl (fun w a => w ^^^ crcN 8 (Wv (ownN cs) into a)) (ownN cs v) = ((into v).take i).foldl (fun w a => w ^^^ crcN 8 (Wv (ownN cs) into a)) (ownN cs v) ^^^ crcN 8 (Wv (ownN cs) into a) := by
              rw [List.take_add_one, hav, List.foldl_append]; rfl
            refine TurnT.next F19 N20 hJ5 (fun q hq => ?_) ⟨rfl, rfl, ⟨_, _, rfl, hlk'⟩, rfl, rfl, rfl, rfl, ?_, fun q hq h => mem_off (up5 q (keep2 q hq h) h) (offJ q (keep2 q hq h)), ⟨o18, _, mem_off hC5 nJC.symm, d17⟩⟩
            · rw [List.mem_singleton.mp hq]; exact up5 _ hrv2 (offC hrv)
            · rw [eS, ← bitXor_nat]; exact ⟨_, rfl⟩
      · skip
        rename (decide _ || decide _) = false => hT
        obtain ⟨hT1, hT2⟩ := Bool.or_eq_false_iff.mp hT
        have hT1 := of_decide_eq_false hT1
        have hT2 : rvs = [] := Decidable.of_not_not (of_decide_eq_false hT2)
        subst hT2
        have hrs : rs = [] := List.eq_nil_of_length_eq_zero (by rw [← lrv]; rfl)
        have hws : ws = [] := List.eq_nil_of_length_eq_zero (by omega)
        subst hrs hws
        obtain ⟨hnd, hall⟩ := li_all hlow I.li
        obtain ⟨hl6, da, o, htv, hob, ho6, hinj⟩ := told_six I.told hnd hall
        have hC12 : s₁.heap.objs.size + 1 + 1 ≠ s₁.heap.objs.size + 1 := Nat.succ_ne_self _
        have inp : Inp Xa (ownN cs) into oa ta la := ⟨⟨ys, _, I.keep _ (.head _) (fun e => lO (s₁.heap.objs.size + 1, oA) (.tail _ hA2) e.symm), hIo⟩, ⟨ts, kt, I.keep _ (.tail _ hta) (offC hta), hts⟩, fun v hv => by
          obtain ⟨rv, kr, h1, h2⟩ := hrow v hv
          exact ⟨rv, kr, I.keep _ (.tail _ h1) (offC h1), h2⟩, hlow, fun v => Nat.le_trans (hlenI v) (by decide), own_big hcb0⟩
        have Cd := due_spec (w := w) inp
        have ht1 := I.ht
        have hD3 := I.keep _ (.tail _ hD2) hC12
        have nTE : tl ≠ s₁.heap.objs.size + 1 + 1 := cell_off N₁ hD3 dD ht1
        clear S attr
        refine Stop.in ?_; k_dflt (refine' Spec.use ?Cx18 ?Bx18 ?Fx18 ?Kx18 ?Nx18 ?Tx18 ?hkx18 ?dx18 ?ux18 ?_; (case Cx18 => assumption); (case Bx18 => k_asm); (case Fx18 => k_asm); (case Kx18 => k_asm); (case Nx18 => k_asm); (case Tx18 => k_asm); (case hkx18 => first | exact rfl | assumption); (case dx18 => first | omega | ((try simp only [depth_under_make, depth_under_kw, depth_in1, depth_deeper, depth_caller]); (try dsimp only [ktrTop]); omega)); (case ux18 => first | omega | ((try simp only [units_in1, units_deeper, Around.mark_units, units_caller]); (try dsimp only [ktrTop]); omega)))
        rintro r Xd h9 tk9 Fd Nd ⟨⟨Dd, dys, dk, rfl, hDd, hDI⟩, upd⟩
        have ht2 := upd _ ht1
        have hD4 := upd _ hD3
        (try dsimp only)
        k_steps
        rename News _ _ _ ((_, _) :: off _ Xd) => Ne
        rename (_ = Data.cell (some (Value.ref Dd))) => de
        obtain ⟨Xe, oE, Ne, dE, htE, hcE, hDE, hobE⟩ : ∃ Xe oE, News s₁.heap s₁.heap.objs.size _ Xe ∧ oE.data = .cell (some (.ref Dd)) ∧ (tl, listO tvs _) ∈ Xe ∧ (s₁.heap.objs.size + 1 + 1, oE) ∈ Xe ∧ (Dd, listO dys dk) ∈ Xe ∧ ∀ j, j < 6 → ∃ t t' k', (da j, tupO [.int (o j : Nat) t, .int ((Wv (ownN cs) into (o j) : Nat) : Int) t'] k') ∈ Xe :=
          ⟨_, _, Ne, de, .tail _ (mem_off ht2 nTE), .head _, .tail _ (mem_off hDd (cell_off Nd hD4 dD hDd)), fun j hj => by
            obtain ⟨t, t', k', h⟩ := hob j hj
            exact ⟨t, t', k', .tail _ (mem_off (upd _ h) (tup_cell Nd hD4 dD (upd _ h) ⟨_, _, rfl⟩))⟩⟩
        refine Stop.in ?_
        rename Fr _ _ _ _ => Fe
        k_dflt (refine' sort_told (wv := fun j => ((Wv (ownN cs) into (o j) : Nat) : Int)) Fe Ne htE hl6 htv hobE ho6 hinj ?_)
        intro Ds cS hS' out FS' NS' lS hout hsort
        have hDI : IntsAre dys ((List.range 6).map fun v => ((Wv (ownN cs) into v : Nat) : Int)) := by
          have e : ((List.range 6).map fun v => ((trn (rst (tog (ownN cs) into v)) : Nat) : Int)) = (List.range 6).map fun v => ((Wv (ownN cs) into v : Nat) : Int) := List.map_congr_left fun v hv => by rw [due_eq hlow (own_big hcb0) (List.mem_range.mp hv)]
          rw [← e]; exact hDI
        k_steps
        refine Stop.in ?_; k_dflt (refine' LCg.ListComp_U ?fx19 ?ax19 ?bx19 ?cx19 ?dx19 ?ex19 ?_ ?gx19; (case fx19 => k_asm); (case bx19 => decide); (case cx19 => exact rfl); (case dx19 => decide); (case ex19 => exact rfl); (case ax19 => with_unfolding_all exact rfl); (case gx19 => exact fun _ => by simp only [foldedSetIterable]))
        k_steps
        rename IsRange _ _ _ _ _ _ _ _ => hRg
        refine Stop.in ?_
        k_dflt (refine' comp_rngG (n := 6) (fun i zs Y => zs.length = i ∧ (∀ q ∈ (Ds, listO out cS) :: Xe, q ∈ Y) ∧ ∀ v, v < i → ∃ T t t' k', zs[v]? = some (Value.ref T) ∧ (T, tupO [.int (v : Nat) t, .int ((Wv (ownN cs) into v : Nat) : Int) t'] k') ∈ Y) ?gh ?gF ?gN ?gr ?gs ?gn ?gz ?gj ?ge ?gf; (case gh => exact rfl); (case gF => k_asm); (case gN => k_asm); (case gr => assumption); (case gs => decide); (case gn => exact rfl); (case gz => decide))
        case gj => exact ⟨rfl, fun q hq => hq, fun v h => absurd h (Nat.not_lt_zero _)⟩
        case ge =>
          rintro v tv zs Y I2 oI2 C2 oC2 D2 m₂ h tk E' hv ⟨hl3, up3, hzs⟩ hoff hC hx F1 N1
          have hcY := up3 _ (.tail _ hcE)
          have hDY := up3 _ (.tail _ hDE)
          have hlt : ∀ q ∈ (I2, oI2) :: (C2, oC2) :: (D2, LCg.lst zs) :: Y, q.1 ≠ h.objs.size := fun q hq => Nat.ne_of_lt (Heap.lt_size (N1 q hq).1)
          k_steps
          rename News _ _ _ ((_, _) :: (I2, oI2) :: _) => N2
          rename_i t2 _ _ _ _ _ _
          refine Stop.in (EltEndG.mk (Y := (h.objs.size, tupO [Value.int (v : Int) tv, Value.int ((Wv (ownN cs) into v : Nat) : Int) t2] 0) :: Y) (by assumption) (Mine.News.sub N2 fun q hq => ?_) (fun q hq => ?_) ⟨?_, ?_, ?_⟩)
          · rcases List.mem_cons.mp hq with rfl | hq
            · exact .tail _ (.head _)
            rcases List.mem_cons.mp hq with rfl | hq
            · exact .tail _ (.tail _ (.head _))
            rcases List.mem_cons.mp hq with rfl | hq
            · exact .tail _ (.tail _ (.tail _ (.head _)))
            rcases List.mem_cons.mp hq with rfl | hq
            · exact .head _
            · exact .tail _ (.tail _ (.tail _ (.tail _ hq)))
          · rcases List.mem_cons.mp hq with rfl | hq
            · exact ⟨(hlt _ (.head _)).symm, (hlt _ (.tail _ (.head _))).symm, (hlt _ (.tail _ (.tail _ (.head _)))).symm⟩
            · exact hoff q hq
          · rw [List.length_append, hl3]; rfl
          · exact fun q hq => .tail _ (up3 q hq)
          · intro u hu
            by_cases e : u = v
            · subst e
              refine ⟨h.objs.size, tv, t2, 0, ?_, .head _⟩
              rw [List.getElem?_append_right (by omega), show u - zs.length = 0 by omega]; rfl
            · obtain ⟨T, t, t', k', h1, h2⟩ := hzs u (by omega)
              exact ⟨T, t, t', k', by rw [List.getElem?_append_left (by omega)]; exact h1, .tail _ h2⟩
        case gf =>
          rintro g3 zs Y ⟨hl3, up3, hzs⟩
          refine finE fun D3 hD3 tkD3 FD3 ND3 lD3 => ?_
          k_steps
          refine Stop.in ?_
          k_dflt (refine' eq_told (wv := fun v => ((Wv (ownN cs) into v : Nat) : Int)) ND3 (.tail _ (up3 _ (.head _))) (.head _) hout hl3 ?qa ?qb ?qu ?_)
          case qa =>
            intro v hv
            obtain ⟨j, hj, e, h1⟩ := hsort v hv
            obtain ⟨t, t', k', h2⟩ := hobE j hj
            rw [e] at h2
            exact ⟨da j, t, t', k', h1, .tail _ (up3 _ (.tail _ h2))⟩
          case qb =>
            intro v hv
            obtain ⟨T, t, t', k', h1, h2⟩ := hzs v hv
            exact ⟨T, t, t', k', h1, .tail _ h2⟩
          case qu => k_units
          k_steps
    case it =>
      rintro i vv um X6 h6 tk6 I io lI hvv ⟨g, hsx, S6, hks6, hK6⟩ hI6 hnl6 F6 N6
      subst hsx
      obtain ⟨n, tn, rfl, hn⟩ := IntsAre.at hND i vv hvv
      have hn6 := hrng n (List.mem_of_getElem? hn)
      have hnt : n ∉ ([5, 4, 3, 2, 1, 0] : List Int).take i := by
        have hi : i < 6 := (List.getElem?_eq_some_iff.mp hn).1
        have : i = 0 ∨ i = 1 ∨ i = 2 ∨ i = 3 ∨ i = 4 ∨ i = 5 := by omega
        rcases this with rfl | rfl | rfl | rfl | rfl | rfl <;> (have := Option.some.inj hn; subst this; decide)
      have hi6 : i < 6 := (List.getElem?_eq_some_iff.mp hn).1
      have hnn : n.toNat < 6 := by omega
      have hts6 := hts _ hnn
      obtain ⟨rv, kr, hr, hIr⟩ := hrow _ hnn
      have hta6 := (hK6 _ (.tail _ (.tail _ hta))).1
      have hr6 := (hK6 _ (.tail _ (.tail _ hr))).1
      have inst6 := S6.inst
      obtain ⟨t1, t2, t3, t4, tp, tf, attr6⟩ := S6.attr
      have hrl := hIr.length
      have hrl2 := hlenI n.toNat
      rw [List.length_map] at hrl
      (try dsimp only)
      k_steps
      refine Stop.in ?_
      k_dflt (refine' callWith_MS ?k1 ?k2 ?k3 ?k4 ?_; (case k1 => k_asm); (case k2 => k_asm); (case k3 => k_mem); (case k4 => k_is))
      k_steps
      refine Stop.in ?_
      rw [List.append_nil]
      rename News _ _ _ ((_, methodObj _ _) :: (I, io) :: X6) => N7
      have hIr' : IntsAre rv (intoI into n) := hIr
      have hns : ∀ u ∈ intoI into n, 0 ≤ u ∧ u < 6 := fun u hu => by
        obtain ⟨b, hb, rfl⟩ := List.mem_map.mp hu
        have := hlow _ b hb
        omega
      have hIA : ¬ At g I := At.off S6 hI6
      have hsl : ∀ u, (suF into (([5, 4, 3, 2, 1, 0] : List Int).take i) u).length ≤ 1000 := fun u => Nat.le_trans (suF_len hlenI u _) (by rw [List.length_take]; have := Nat.min_le_left i ([5, 4, 3, 2, 1, 0] : List Int).length; omega)
      rename (∀ p ∈ (I, io) :: X6, p.1 < _) => l9
      rename_i q9 _ _ _ _ _
      have C7 := add_spec (t := tn) (S6.still (X' := (q9, methodObj (.ref 94) (.ref g.sx)) :: (I, io) :: X6) fun q h _ => .tail _ (.tail _ h)) hn6.1 hn6.2 hIr' hns (intoI_len hlenI n) hsl
      k_dflt (refine' SpecC.use C7 (.head _) ?aB ?aF ?aK N7 ?aT ?ahk ?ad ?au ?_; (case aB => k_asm); (case aF => k_asm); (case aK => k_asm); (case aT => k_asm); (case ahk => exact rfl); (case ad => first | omega | decide); (case au => first | omega | decide))
      rintro r X7 h7 tk7 F7 N8 ⟨rfl, g7, hv7, hu7, S7, G7⟩
      (try dsimp only)
      k_steps
      rename Fr _ _ _ _ => F9
      rw [npF_step hnt, suF_step] at S7
      have htk : ([5, 4, 3, 2, 1, 0] : List Int).take (i + 1) = ([5, 4, 3, 2, 1, 0] : List Int).take i ++ [n] := by rw [List.take_add_one, hn]; rfl
      have hI7 : (I, io) ∈ X7 := G7.fr _ (.tail _ (.head _)) hIA
      have hIA7 : ¬ At g7 I := G7.notAt (q := (I, io)) (.tail _ (.head _)) hIA
      have hK7 : ∀ q ∈ (nl, listO nv 0) :: (oa, listO ys ys.length) :: X2, q ∈ X7 ∧ ¬ At g7 q.1 := fun q hq => ⟨G7.fr q (.tail _ (.tail _ (hK6 q hq).1)) (hK6 q hq).2, G7.notAt (.tail _ (.tail _ (hK6 q hq).1)) (hK6 q hq).2⟩
      refine MyTurn.next F9 N8 hI7 (fun q hq => ?_) ⟨Ag.base, g7, G7.sx, ?_, fun v hv => ?_, fun q hq => ⟨mem_off (hK7 q hq).1 (hI6 q (hK6 q hq).1), (hK7 q hq).2⟩⟩
      · rw [List.mem_singleton.mp hq]
        exact (hK7 _ (.head _)).1
      · rw [htk]; exact S7.offI hIA7
      · rw [htk] at hv
        rcases List.mem_append.mp hv with h | h
        · exact G7.ks _ (hks6 v h)
        · rw [List.mem_singleton.mp h]; exact hv7
      done
end
end Mine
theorem PySem.Challenge.cw_mq0314_01_holds : PySem.Challenge.rw_mq0314_01.Holds :=
  Mine.lawx
