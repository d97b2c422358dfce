import PyProof.Rows.All
import Wide.All
import OpenK.AllK
import Wide.FinOn
import PySem.Challenge.RW_nq0264_01
open PySem PySem.W PyProof.Rows PySem.Calls PySem.Spec
set_option Elab.async false
set_option maxRecDepth 100000
set_option maxHeartbeats 0
namespace Mine
section
section
local macro_rules | `(tactic| o_head $_) => `(tactic| assumption)
theorem lay (_h : PySem.Challenge.rw_nq0264_01.row.Holds) : PySem.Challenge.rw_nq0264_01.row.Holds := by
  x_head
end
end

section
theorem evStr {M : Model} {A : Around} {x : Str} {k : Nat} {p : Pos} {env : Env} {Q : Value → Shared → Prop} {E : Value → Shared → Prop} {h : Heap} {g : Array GenState} {d : Drawn} {t : Nat} {os : OsState} (q : Q (.str x t) ⟨h, g, d, t + 1, os⟩) : wpAny M A (eval (.Constant (.str x) k p) env) Q E ⟨h, g, d, t, os⟩ := Calls.Constant_str q
theorem evInt {M : Model} {A : Around} {n : Int} {k : Nat} {p : Pos} {env : Env} {Q : Value → Shared → Prop} {E : Value → Shared → Prop} {h : Heap} {g : Array GenState} {d : Drawn} {t : Nat} {os : OsState} (q : Q (.int n t) ⟨h, g, d, t + 1, os⟩) : wpAny M A (eval (.Constant (.int n) k p) env) Q E ⟨h, g, d, t, os⟩ := wpAny_Constant_int q
theorem sub_refl {α : Type} {l : List α} : ∀ p ∈ l, p ∈ l := fun _ h => h
theorem sub_cons {α : Type} {a : α} {l l' : List α} (h : a ∈ l') (t : ∀ p ∈ l, p ∈ l') : ∀ p ∈ a :: l, p ∈ l' := fun p hp => by
  cases hp with
  | head => exact h
  | tail _ q => exact t p q
theorem sub_tail {α : Type} {a : α} {l l' : List α} (t : ∀ p ∈ l, p ∈ l') : ∀ p ∈ l, p ∈ a :: l' := fun p hp => .tail _ (t p hp)
theorem lbA {p q : List Nat} {a b : Nat} (h : p.length ≤ a) (h2 : q.length ≤ b) : (p ++ q).length ≤ a + b := by rw [List.length_append]; exact Nat.add_le_add h h2
theorem lbC {c : Nat} {p : List Nat} {a : Nat} (h : p.length ≤ a) : (c :: p).length ≤ a + 1 := Nat.succ_le_succ h
theorem lbN : ([] : List Nat).length ≤ 0 := Nat.le_refl _
theorem em0 (x : Int) {n : Int} (h : 0 < n) : 0 ≤ x % n := Int.emod_nonneg _ (Int.ne_of_gt h)
theorem em1 (x : Int) {n : Int} (h : 0 < n) : x % n < n := Int.emod_lt_of_pos _ h
theorem emN (x : Int) {n : Int} (k : Nat) (h : 0 < n) (hk : n = (k : Int) + 1) : (x % n).toNat ≤ k := Int.toNat_le.mpr (Int.le_of_lt_add_one (hk ▸ em1 x h))
theorem tn2 (i : Nat) : 2 * i = (0 + (i : Int) * 2).toNat := by show 2 * i = 0 + i * 2; rw [Nat.zero_add, Nat.mul_comm]
theorem tn3 (i : Nat) : 2 * i + 1 = (0 + (i : Int) * 2 + 1).toNat := congrArg (· + 1) (tn2 i)
theorem tn0 (i : Nat) : (0 : Int) ≤ 0 + (i : Int) * 2 := by rw [Int.zero_add]; exact Int.natCast_nonneg (i * 2)
theorem pops1 {a i n : Nat} (h : a + i = n) (hi : i < n) : 1 ≤ a := Nat.pos_of_ne_zero fun e => by rw [e, Nat.zero_add] at h; exact Nat.lt_irrefl _ (h ▸ hi)
theorem pops2 {a b i n : Nat} (h : a + i = n) (e : a = b + 1) : b + (i + 1) = n := by rw [← h, e, Nat.add_comm i 1, ← Nat.add_assoc]
theorem ki0 {i n : Nat} (h : 0 + i = n) : i = n := (Nat.zero_add i).symm.trans h
theorem ki1 {k i n : Nat} (h : k + 1 + i = n) : i < n := by omega
theorem ki2 {k i n : Nat} (h : k + 1 + i = n) : k + (i + 1) = n := by omega
theorem l468' : ∀ n : Fin 5, 2 ≤ n.1 → 2 * n.1 = 4 ∨ 2 * n.1 = 6 ∨ 2 * n.1 = 8 := by decide
theorem l468 {n m : Nat} (h : m = 2 * n) (h2 : 2 ≤ n) (h4 : n ≤ 4) : m = 4 ∨ m = 6 ∨ m = 8 := h ▸ l468' ⟨n, Nat.lt_succ_of_le h4⟩ h2
theorem le16 {n k : Nat} (h : n ≤ k) (e : k ≤ 16777216) : n ≤ sizeLine := Nat.le_trans h (Nat.le_trans e (Nat.le_of_eq sizeLine_eq.symm))
theorem tlt {i n : Nat} (h : i < n) (hn : n ≤ 4) : (0 : Int) + (i : Int) * 2 + 1 < 1000 := by rw [Int.zero_add]; exact Int.ofNat_lt.mpr (Nat.lt_of_le_of_lt (Nat.succ_le_succ (Nat.mul_le_mul_right 2 (Nat.le_trans (Nat.le_of_lt h) hn))) (by decide))
theorem tlt0 {i n : Nat} (h : i < n) (hn : n ≤ 4) : (0 : Int) + (i : Int) * 2 < 1000 := Int.lt_trans (Int.lt_succ _) (tlt h hn)
noncomputable def Stop9 (P : Prop) : Prop := P
theorem Stop9.out {P : Prop} (h : Stop9 P) : P := h
theorem Stop9.inn {P : Prop} (h : P) : Stop9 P := h
noncomputable def StopP (_P : Prop) : Prop := True
theorem StopP.mk {P : Prop} : Nonempty (StopP P) := ⟨trivial⟩
structure Bx (P : Prop) : Prop where
  out : P
theorem Stop9.at {P : Prop} [Nonempty (StopP P)] (h : Stop9 P) : P := h
theorem rme0 {d n k m : Nat} (h : d + n ≤ k) (e : k ≤ n + m) : d ≤ m := by omega
theorem rme1 {d n k m a : Nat} (h : d + n ≤ k) (e : a + k ≤ n + m) : d + a ≤ m := by omega
theorem rme2 {d n k m a b : Nat} (h : d + n ≤ k) (e : a + b + k ≤ n + m) : d + a + b ≤ m := by omega
theorem rmt0 {d n k m : Nat} (h : d + n ≤ k) (e : k < n + m) : d < m := by omega
theorem rmt1 {d n k m a : Nat} (h : d + n ≤ k) (e : a + k < n + m) : d + a < m := by omega
theorem rmt2 {d n k m a b : Nat} (h : d + n ≤ k) (e : a + b + k < n + m) : d + a + b < m := by omega
theorem rlt0 {d n k m : Nat} (h : d + n < k) (e : k ≤ n + m) : d < m := by omega
theorem rlt1 {d n k m a : Nat} (h : d + n < k) (e : a + k ≤ n + m) : d + a < m := by omega
theorem rlt2 {d n k m a b : Nat} (h : d + n < k) (e : a + b + k ≤ n + m) : d + a + b < m := by omega
noncomputable def nthL : Frag → Nat → Obj
  | [], _ => default
  | p :: _, 0 => p.2
  | _ :: r, n + 1 => nthL r n
noncomputable def nthO (P : Params) (i : Nat) : Obj := nthL (Mine.lay.heap_1 P) i
/-- the written part but for the table of join's code (825), which the law's run turns -/
noncomputable def KY (P : Params) : Frag :=
  (nat_lit 0, nthO P (nat_lit 0)) :: (nat_lit 1, nthO P (nat_lit 1)) :: (nat_lit 2, nthO P (nat_lit 2)) :: (nat_lit 3, nthO P (nat_lit 3)) :: (nat_lit 87, nthO P (nat_lit 41)) :: (nat_lit 88, nthO P (nat_lit 42)) :: (nat_lit 94, nthO P (nat_lit 48)) :: (nat_lit 95, nthO P (nat_lit 49)) ::
  (nat_lit 101, nthO P (nat_lit 55)) :: (nat_lit 102, nthO P (nat_lit 56)) :: (nat_lit 108, nthO P (nat_lit 62)) :: (nat_lit 109, nthO P (nat_lit 63)) :: (nat_lit 115, nthO P (nat_lit 69)) :: (nat_lit 116, nthO P (nat_lit 70)) :: (nat_lit 122, nthO P (nat_lit 76)) :: (nat_lit 123, nthO P (nat_lit 77)) ::
  (nat_lit 127, nthO P (nat_lit 78)) :: (nat_lit 128, nthO P (nat_lit 79)) :: (nat_lit 141, nthO P (nat_lit 92)) :: (nat_lit 142, nthO P (nat_lit 93)) :: (nat_lit 168, nthO P (nat_lit 104)) :: (nat_lit 169, nthO P (nat_lit 105)) :: (nat_lit 171, nthO P (nat_lit 107)) :: (nat_lit 172, nthO P (nat_lit 108)) ::
  (nat_lit 173, nthO P (nat_lit 109)) :: (nat_lit 198, nthO P (nat_lit 118)) :: (nat_lit 199, nthO P (nat_lit 119)) :: (nat_lit 429, nthO P (nat_lit 341)) :: (nat_lit 439, nthO P (nat_lit 343)) :: (nat_lit 445, nthO P (nat_lit 349)) :: (nat_lit 446, nthO P (nat_lit 350)) :: (nat_lit 452, nthO P (nat_lit 356)) ::
  (nat_lit 453, nthO P (nat_lit 357)) :: (nat_lit 459, nthO P (nat_lit 363)) :: (nat_lit 460, nthO P (nat_lit 364)) :: (nat_lit 615, nthO P (nat_lit 519)) :: (nat_lit 621, nthO P (nat_lit 525)) :: (nat_lit 622, nthO P (nat_lit 526)) :: (nat_lit 675, nthO P (nat_lit 579)) :: (nat_lit 676, nthO P (nat_lit 580)) ::
  (nat_lit 728, nthO P (nat_lit 623)) :: (nat_lit 734, nthO P (nat_lit 629)) :: (nat_lit 735, nthO P (nat_lit 630)) :: (nat_lit 741, nthO P (nat_lit 636)) :: (nat_lit 742, nthO P (nat_lit 637)) :: (nat_lit 743, nthO P (nat_lit 638)) :: (nat_lit 771, nthO P (nat_lit 666)) :: (nat_lit 772, nthO P (nat_lit 667)) ::
  (nat_lit 778, nthO P (nat_lit 673)) :: (nat_lit 779, nthO P (nat_lit 674)) :: (nat_lit 800, nthO P (nat_lit 695)) :: (nat_lit 801, nthO P (nat_lit 696)) :: (nat_lit 807, nthO P (nat_lit 702)) :: (nat_lit 808, nthO P (nat_lit 703)) :: (nat_lit 810, nthO P (nat_lit 705)) :: (nat_lit 811, nthO P (nat_lit 706)) ::
  (nat_lit 816, nthO P (nat_lit 709)) :: (nat_lit 822, nthO P (nat_lit 715)) :: (nat_lit 823, nthO P (nat_lit 716)) :: (nat_lit 829, nthO P (nat_lit 722)) :: (nat_lit 830, nthO P (nat_lit 723)) :: (nat_lit 831, nthO P (nat_lit 724)) :: (nat_lit 837, nthO P (nat_lit 730)) :: (nat_lit 838, nthO P (nat_lit 731)) ::
  (nat_lit 842, nthO P (nat_lit 735)) :: (nat_lit 843, nthO P (nat_lit 736)) :: (nat_lit 844, nthO P (nat_lit 737)) :: (nat_lit 845, nthO P (nat_lit 738)) :: (nat_lit 848, nthO P (nat_lit 741)) :: (nat_lit 849, nthO P (nat_lit 742)) :: (nat_lit 850, nthO P (nat_lit 743)) :: (nat_lit 851, nthO P (nat_lit 744)) ::
  (nat_lit 852, nthO P (nat_lit 745)) :: (nat_lit 853, nthO P (nat_lit 746)) :: (nat_lit 854, nthO P (nat_lit 747)) :: (nat_lit 855, nthO P (nat_lit 748)) :: (nat_lit 856, nthO P (nat_lit 749)) :: (nat_lit 857, nthO P (nat_lit 750)) :: (nat_lit 858, nthO P (nat_lit 751)) :: (nat_lit 859, nthO P (nat_lit 752)) ::
  (nat_lit 860, nthO P (nat_lit 753)) :: []
/-- the part that the head is asked for: KY and the table -/
noncomputable def KZ (P : Params) : Frag := (nat_lit 825, nthO P (nat_lit 718)) :: KY P
noncomputable def KZa : List Addr := [825, 0, 1, 2, 3, 87, 88, 94, 95, 101, 102, 108, 109, 115, 116, 122, 123, 127, 128, 141, 142, 168, 169, 171, 172, 173, 198, 199, 429, 439, 445, 446, 452, 453, 459, 460, 615, 621, 622, 675, 676, 728, 734, 735, 741, 742, 743, 771, 772, 778, 779, 800, 801, 807, 808, 810, 811, 816, 822, 823, 829, 830, 831, 837, 838, 842, 843, 844, 845, 848, 849, 850, 851, 852, 853, 854, 855, 856, 857, 858, 859, 860]

theorem KY_no (P : Params) : (KY P).lookup 825 = none := by kernel_rfl
theorem KZ_up {P : Params} {a : Addr} {o : Obj} (e : (KY P).lookup a = some o) : a ≠ 825 ∧ (KZ P).lookup a = some o := by
  have h : a ≠ 825 := fun q => by rw [q, KY_no] at e; cases e
  refine ⟨h, ?_⟩
  unfold KZ
  rw [List.lookup_cons]
  have : (a == 825) = false := by simpa using h
  rw [this]; exact e
theorem KY_in {P : Params} {h : Heap} (X : (KZ P).In h) : (KY P).In h := fun a o e => X a o (KZ_up e).2
theorem KY_in' {P : Params} {h h' : Heap} (X : (KZ P).In h) (k : ∀ a o, a ≠ 825 → h.get? a = some o → h'.get? a = some o) : (KY P).In h' := fun a o e => k a o (KZ_up e).1 (X a o (KZ_up e).2)
theorem fillK1 : ∀ (w : World) (h : Heap), (KY w.params).In h → PySem.Challenge.rw_nq0264_01.prog = PySem.Challenge.rw_nq0264_01.prog := by
  k_fill
  intros
  rfl
end

section
noncomputable abbrev lo : List Str := [Str.ofString "_twin_re_1", Str.ofString "UnsupportedOperation", Str.ofString "IOBase",
      Str.ofString "BufferedIOBase", Str.ofString "TextIOBase", Str.ofString "BytesIO", Str.ofString "StringIO",
      Str.ofString "join_path", Str.ofString "shlex", Str.ofString "split", Str.ofString "join_shlex",
      Str.ofString "_find_unsafe"]
noncomputable abbrev ent (w : World) (n : String) (t : Tok) (v : Value) : DictEntry := ⟨PyData.keyHash w.params (Str.ofString n), .str (Str.ofString n) t, v⟩
noncomputable abbrev bigA : Around := { handled := none, depth := 300, frames := none, guards := none, units := 1000 }
theorem wpAny_up {α : Type} {M : Model} {A A' : Around} {t : Sem α} {Q : α → Shared → Prop} {E : Value → Shared → Prop} {s : Shared} (h : wpAny M A t Q E s) (hh : A'.handled = A.handled) (hd : A'.depth ≤ A.depth) (hf : A.frames = none) (hg : A.guards = none) (hu : A'.units ≤ A.units) :
    wpAny M A' t Q E s := fun Γ p hΓ => h Γ p ⟨hΓ.1.trans hh, Nat.le_trans hΓ.2.1 hd, (fun l e => by rw [hf] at e; cases e), (fun l e => by rw [hg] at e; cases e), Nat.le_trans hΓ.2.2.2.2 hu⟩
noncomputable def Keeps (h h' : Heap) : Prop := ∀ b o, h.get? b = some o → h'.get? b = some o
theorem Keeps.trans {h h' h'' : Heap} (a : Keeps h h') (b : Keeps h' h'') : Keeps h h'' := fun x o e => b x o (a x o e)
theorem Keeps.refl (h : Heap) : Keeps h h := fun _ _ e => e
theorem fr_keeps {h₀ h h' : Heap} {L : Addr} {m : Str → Option Value} (F : Fr h₀ L h m) (k : Keeps h h') : Fr h₀ L h' m :=
  ⟨F.ns.keeps k, fun b o e => k b o (F.keep b o e), F.above⟩
theorem news_keeps {h₀ h h' : Heap} {L : Addr} {news : List (Addr × Obj)} (N : News h₀ L h news) (k : Keeps h h') : News h₀ L h' news :=
  fun p hp => ⟨k _ _ (N p hp).1, (N p hp).2.1, (N p hp).2.2⟩
theorem news_cons {h₀ h h' : Heap} {L r : Addr} {m : Str → Option Value} {o : Obj} {news : List (Addr × Obj)} (F : Fr h₀ L h m) (N : News h₀ L h news) (k : Keeps h h') (hr : h'.get? r = some o) (hf : h.get? r = none) : News h₀ L h' ((r, o) :: news) := by
  intro p hp
  rcases List.mem_cons.mp hp with rfl | hp
  · refine ⟨hr, ?_, ?_⟩
    · rintro rfl
      obtain ⟨oL, _, _, hL, _⟩ := F.ns
      rw [hL] at hf; cases hf
    · cases q : h₀.get? r with
      | none => rfl
      | some o' => rw [F.keep _ _ q] at hf; cases hf
  · exact news_keeps N k p hp
section
variable {prog : Program} {w : World} {A A₀ : Around} {s : Shared} {K : Frag} {L : Addr} {h₀ base : Heap} {m mg mb : Str → Option Value} {p : Program} {loose : List Str} {mean : ExcName → Option Value}
theorem enterP {env : Env} {outer : List Env} {R : Result → Shared → Prop} {name qual : Str} {params : Arguments} {body : List Stmt} {scope : Scope} {dV kV doc pm cdv ct oc : Value} {an od : Option Addr} {osl : Array (Option Value)} {f : Addr} {args : Args} {binds : List (Str × Value)}
    (B : Below A₀ base outer h₀) (F : Fr h₀ L s.heap m) (X₀ : K.In h₀) (T : Top p loose mean mg mb h₀) (hA : A.frames = some (env :: outer)) (hf : env.frame = some L) (hke : env.scope.kind = .function)
    (ho : K.lookup f = some ⟨oc, od, .func (fnOf name qual params body scope dV kV doc pm an cdv ct), osl⟩) (hcd : codeIn K cdv qual = true) (hroom : A.depth < recursionLimit)
    (hbind : BindsTo s (fnOf name qual params body scope dV kV doc pm an cdv ct) args binds) (hloc : ∀ y ∈ binds, scope.names.lookup y.1 = some .local)
    (h : ∀ L' h₁, Fr s.heap L' h₁ (fun y => binds.reverse.lookup y) → News s.heap L' h₁ [] → Below A base (env :: outer) s.heap → K.In s.heap → Top p loose mean mg mb s.heap →
      wpAny (model prog w) (A.deeper (envOf qual scope L' f cdv)) (execs body (envOf qual scope L' f cdv))
        (fun fl s' => R (.ok (.ret (match fl with | .ret v => v | _ => .none))) s')
        (fun e s' => wpAny (model prog w) (A.deeper (envOf qual scope L' f cdv)) (leaving (envOf qual scope L' f cdv) e) (fun _ s'' => R (.error e) s'') (fun e' s'' => R (.error e') s'') s')
        { s with heap := h₁, toks := s.toks + binds.length })
    (hco : scope.isCoroutine = false) (hgen : scope.isGenerator = false) (hk : scope.kind = .function)
    (hcell : ∀ x ∈ scope.names, x.2 ≠ .cell) : codeAny (model prog w) A (.call (.ref f) args) R s := by
  have g := groundX (R := R) B F (News.nil) hA hf hke
  obtain ⟨FG, BG, st, lv⟩ := g
  refine codeAny_call_def (fd := fnOf name qual params body scope dV kV doc pm an cdv ct) (body := body) (binds := binds) hroom ((X₀.keeps F.keep) _ _ ho) rfl (T.nolimit.keeps F.keep) (codeRec_of (X₀.keeps F.keep) hcd) rfl hbind hcell hloc (fun h₁ hns hk₁ => ?_) hco hgen hk
  exact h s.heap.objs.size h₁ ⟨hns, hk₁, Nat.le_refl _⟩ News.nil BG (X₀.keeps F.keep) (T.keeps F.keep)
end
end

section
noncomputable abbrev dqObj : Obj := { cls := Value.type "collections.deque", data := Data.fields ⟨[Value.none, Value.int 0 0]⟩ }
structure LK where
  (k1 k2 k3 k4 k5 k6 k7 k8 k9 k10 k11 k12 k13 k14 k15 k16 k17 k18 k19 t5 t6 t7 t9 t10 t11 t14 t15 t16 t19 : Tok)
structure SK where
  (j1 j2 j3 tn tb tp : Tok)
noncomputable abbrev siEs (w : World) (k : SK) (buf : Str) (pos : Int) : List DictEntry :=
  [ent w "_StringIO__newline" k.j1 (.str (Str.ofString "\n") k.tn), ent w "_StringIO__buf" k.j2 (.str buf k.tb), ent w "_StringIO__pos" k.j3 (.int pos k.tp)]
noncomputable abbrev WC : Str := Str.ofString "abcdfeghijklmnopqrstuvwxyzABCDEFGHIJKLMNOPQRSTUVWXYZ0123456789_ßàáâãäåæçèéêëìíîïðñòóôõöøùúûüýþÿÀÁÂÃÄÅÆÇÈÉÊËÌÍÎÏÐÑÒÓÔÕÖØÙÚÛÜÝÞ"
noncomputable abbrev lexEs (w : World) (k : LK) (sa pb fs : Addr) (st : Value) (tok : Str) : List DictEntry :=
  [ent w "instream" k.k1 (.ref sa), ent w "infile" k.k2 .none, ent w "posix" k.k3 (.bool true), ent w "eof" k.k4 .none, ent w "commenters" k.k5 (.str (Str.ofString "") k.t5), ent w "wordchars" k.k6 (.str WC k.t6),
   ent w "whitespace" k.k7 (.str (Str.ofString " \t\r\n") k.t7), ent w "whitespace_split" k.k8 (.bool true), ent w "quotes" k.k9 (.str (Str.ofString "'\"") k.t9), ent w "escape" k.k10 (.str (Str.ofString "\\") k.t10), ent w "escapedquotes" k.k11 (.str (Str.ofString "\"") k.t11),
   ent w "state" k.k12 st, ent w "pushback" k.k13 (.ref pb), ent w "lineno" k.k14 (.int 1 k.t14), ent w "debug" k.k15 (.int 0 k.t15), ent w "token" k.k16 (.str tok k.t16), ent w "filestack" k.k17 (.ref fs), ent w "source" k.k18 .none, ent w "_punctuation_chars" k.k19 (.str (Str.ofString "") k.t19)]
noncomputable def IsLex (w : World) (xa xd sa sd pb fs : Nat) (st : Value) (tok : Str) (buf : Str) (pos : Int) (ex led : List (Addr × Obj)) : Prop :=
  ∃ (k : LK) (j : SK),
    led = (xa, instObj 811 xd) :: (xd, dictOf (lexEs w k sa pb fs st tok) 19) ::
      (sa, instObj 676 sd) :: (sd, dictOf (siEs w j buf pos) 3) :: (pb, dqObj) :: (fs, dqObj) :: ex
noncomputable abbrev lexE0 (w : World) (k1 k2 k3 k4 k5 k6 k7 k8 k9 k10 k11 k12 k13 k14 k15 k16 k17 k18 k19 : Tok) (t5 t6 t7 t9 t10 t11 t14 t15 t16 t19 : Tok) (sa pb fs : Addr) (st : Value) (tok : Str) : List DictEntry :=
  [ent w "instream" k1 (.ref sa), ent w "infile" k2 .none, ent w "posix" k3 (.bool true), ent w "eof" k4 .none, ent w "commenters" k5 (.str (Str.ofString "") t5), ent w "wordchars" k6 (.str WC t6),
   ent w "whitespace" k7 (.str (Str.ofString " \t\r\n") t7), ent w "whitespace_split" k8 (.bool true), ent w "quotes" k9 (.str (Str.ofString "'\"") t9), ent w "escape" k10 (.str (Str.ofString "\\") t10), ent w "escapedquotes" k11 (.str (Str.ofString "\"") t11),
   ent w "state" k12 st, ent w "pushback" k13 (.ref pb), ent w "lineno" k14 (.int 1 t14), ent w "debug" k15 (.int 0 t15), ent w "token" k16 (.str tok t16), ent w "filestack" k17 (.ref fs), ent w "source" k18 .none, ent w "_punctuation_chars" k19 (.str (Str.ofString "") t19)]
noncomputable abbrev siE0 (w : World) (k1 k2 k3 : Tok) (tn : Tok) (buf : Str) (tb : Tok) (pos : Int) (tp : Tok) : List DictEntry :=
  [ent w "_StringIO__newline" k1 (.str (Str.ofString "\n") tn), ent w "_StringIO__buf" k2 (.str buf tb), ent w "_StringIO__pos" k3 (.int pos tp)]
theorem isLex_mk {w : World} {xa xd sa sd pb fs : Nat} {st : Value} {tok : Str} {buf : Str} {pos : Int} {ex : List (Addr × Obj)} {k1 k2 k3 k4 k5 k6 k7 k8 k9 k10 k11 k12 k13 k14 k15 k16 k17 k18 k19 t5 t6 t7 t9 t10 t11 t14 t15 t16 t19 j1 j2 j3 tn tb tp : Tok} : IsLex w xa xd sa sd pb fs st tok buf pos ex ((xa, instObj 811 xd) :: (xd, dictOf (lexE0 w k1 k2 k3 k4 k5 k6 k7 k8 k9 k10 k11 k12 k13 k14 k15 k16 k17 k18 k19 t5 t6 t7 t9 t10 t11 t14 t15 t16 t19 sa pb fs st tok) 19) ::
      (sa, instObj 676 sd) :: (sd, dictOf (siE0 w j1 j2 j3 tn buf tb pos tp) 3) :: (pb, dqObj) :: (fs, dqObj) :: ex) := ⟨⟨k1, k2, k3, k4, k5, k6, k7, k8, k9, k10, k11, k12, k13, k14, k15, k16, k17, k18, k19, t5, t6, t7, t9, t10, t11, t14, t15, t16, t19⟩, ⟨j1, j2, j3, tn, tb, tp⟩, rfl⟩
structure Apart (xa xd sa sd pb fs : Nat) (ex : List (Addr × Obj)) : Prop where
  c1 : xd ≠ xa
  c2 : xd ≠ sa
  c3 : xd ≠ sd
  c4 : xd ≠ pb
  c5 : xd ≠ fs
  d1 : sd ≠ xa
  d3 : sd ≠ sa
  d4 : sd ≠ pb
  d5 : sd ≠ fs
  a6 : ∀ p ∈ ex, p.1 ≠ xd
  a7 : ∀ p ∈ ex, p.1 ≠ sd
section
variable {w : World} {pg : Program} {lz : List Str} {mean : ExcName → Option Value} {mg mb : Str → Option Value} {dp un : Nat} {gd : Option (List Code)} {cn : Str} {cs : Scope} {a : Addr} {ccd : Value} {cl : List (Str × Addr)} {outer : List Env} {A₀ : Around} {base h₀ : Heap} {L : Addr} {m : Str → Option Value} {s : Shared} {Q E : Value → Shared → Prop}
end
end

section
abbrev mkS (l : List Nat) : Str := ⟨⟨l⟩⟩
theorem occ_is {X : Str} {c : Nat} {b : Bool} (h : decide (c ∈ X.cps.toList) = b) : (Builtin.Str.occurrences X (mkS [c]) 0 X.length 1).isEmpty = !b := by
  have := StrLaws.found_one X c
  rw [h] at this
  rw [← this, Bool.not_not]
theorem e0 : Str.ofString "" = mkS [] := by decide +kernel
theorem e1 : Str.ofString "\\" = mkS [92] := by decide +kernel
theorem e2 : Str.ofString " \t\r\n" = mkS [32, 9, 13, 10] := by decide +kernel
theorem e3 : Str.ofString "'\"" = mkS [39, 34] := by decide +kernel
theorem e4 : Str.ofString "\n" = mkS [10] := by decide +kernel
theorem e5 : Str.ofString " " = mkS [32] := by decide +kernel
theorem e6 : Str.ofString "\"" = mkS [34] := by decide +kernel
theorem e7 : Str.ofString "'" = mkS [39] := by decide +kernel
theorem e8 : Str.ofString "a" = mkS [97] := by decide +kernel
theorem occ0 (c : Nat) : (Builtin.Str.occurrences (Str.ofString "") (mkS [c]) 0 (Str.ofString "").length 1).isEmpty = true := occ_is (b := false) (by rw [e0]; rfl)
theorem occE {c : Nat} (h : c ≠ 92) : (Builtin.Str.occurrences (Str.ofString "\\") (mkS [c]) 0 (Str.ofString "\\").length 1).isEmpty = true := occ_is (b := false) (by rw [e1]; exact decide_eq_false (by simpa using h))
noncomputable def okc (c : Nat) : Prop := c ≠ 9 ∧ c ≠ 10 ∧ c ≠ 13 ∧ c ≠ 92
theorem occW {c : Nat} (h : okc c) (h32 : c ≠ 32) : (Builtin.Str.occurrences (Str.ofString " \t\r\n") (mkS [c]) 0 (Str.ofString " \t\r\n").length 1).isEmpty = true := occ_is (b := false) (by rw [e2]; exact decide_eq_false (fun q => by
  rcases List.mem_cons.mp q with q | q
  · first | exact h32 q | exact h.1 q | exact h.2.1 q | exact h.2.2.1 q
  rcases List.mem_cons.mp q with q | q
  · first | exact h32 q | exact h.1 q | exact h.2.1 q | exact h.2.2.1 q
  rcases List.mem_cons.mp q with q | q
  · first | exact h32 q | exact h.1 q | exact h.2.1 q | exact h.2.2.1 q
  rcases List.mem_cons.mp q with q | q
  · first | exact h32 q | exact h.1 q | exact h.2.1 q | exact h.2.2.1 q
  cases q))
theorem occW1 : (Builtin.Str.occurrences (Str.ofString " \t\r\n") (mkS [32]) 0 (Str.ofString " \t\r\n").length 1).isEmpty = false := occ_is (b := true) (by rw [e2]; decide)
theorem occQ {c : Nat} (h1 : c ≠ 34) (h2 : c ≠ 39) : (Builtin.Str.occurrences (Str.ofString "'\"") (mkS [c]) 0 (Str.ofString "'\"").length 1).isEmpty = true := occ_is (b := false) (by rw [e3]; exact decide_eq_false (fun q => by
  rcases List.mem_cons.mp q with q | q
  · first | exact h1 q | exact h2 q
  rcases List.mem_cons.mp q with q | q
  · first | exact h1 q | exact h2 q
  cases q))
theorem occQ1 : (Builtin.Str.occurrences (Str.ofString "'\"") (mkS [34]) 0 (Str.ofString "'\"").length 1).isEmpty = false := occ_is (b := true) (by rw [e3]; decide)
theorem occQ2 : (Builtin.Str.occurrences (Str.ofString "'\"") (mkS [39]) 0 (Str.ofString "'\"").length 1).isEmpty = false := occ_is (b := true) (by rw [e3]; decide)

theorem occC1 : (Builtin.Str.occurrences WC (mkS [34]) 0 WC.length 1).isEmpty = true := occ_is (b := false) (by decide +kernel)
theorem occC2 : (Builtin.Str.occurrences WC (mkS [39]) 0 WC.length 1).isEmpty = true := occ_is (b := false) (by decide +kernel)
end

section
open PySem PySem.W PyProof.Rows PySem.Calls PySem.Spec PySem.W.X
theorem dq_slot : Slot "collections.deque" (Str.ofString "__len__") "collections.deque.__len__" :=
  Slot.of (owner := "collections.deque") (n := "__len__") (by rw [typeLookup_type, builtinLookup_eq_fast]; kernel_rfl) (by decide +kernel) (by decide +kernel) (by decide +kernel) (.inl (by decide +kernel)) (by rw [isSubtype_type]; kernel_rfl)
theorem dq_meets (a : Addr) : Meets (Builtin.«collections.deque.__len__» ⟨[.ref a], []⟩) (fun _ R s => s.heap.get? a = some dqObj ∧ R (.ok (.ret (.int 0 s.toks))) { s with toks := s.toks + 1 }) :=
  .of_wp fun prog w A R s h => by
    obtain ⟨hp, g, d, tk, os⟩ := s; obtain ⟨ha, h⟩ := h
    wp_walk using wpAny_loadPart' ha
    exact ⟨_, rfl, h⟩
theorem truthy_dq {w : World} {A : Around} {E : Value → Shared → Prop} {s : Shared} {Q : Bool → Shared → Prop} {a : Addr} (ha : s.heap.get? a = some dqObj) (_h1 : A.handled = none) (_h2 : A.depth ≤ 800) (_h3 : A.units ≤ 5000)
   (h : ∀ tk, Q false { s with toks := tk }) : wpAny (model PySem.Challenge.rw_nq0264_01.prog w) A (truthy (.ref a)) Q E s := by
  have hT : s.TypeIs (.ref a) "collections.deque" := ⟨_, ha, rfl⟩
  have nb : typeLookup (.type "collections.deque") "__bool__" = pure none := by rw [typeLookup_type, builtinLookup_eq_fast]; kernel_rfl
  have key : wpAny (model PySem.Challenge.rw_nq0264_01.prog w) A (runValue (.builtin "len" ⟨[.ref a], []⟩)) (fun r s' => ∃ t, r = .int 0 t ∧ Q false s') E s := by
    refine wpAny_runValue (codeAny_builtin entry_len ?_)
    rw [Around.under_plainId plain_len _]
    unfold Builtin.«len»
    refine wpAny_bind (m := oneArg "len" _) (wpAny_pure ?_)
    refine wpAny_bind (m := callSpecial? (.ref a) (Str.ofString "__len__")) (wpAny_callSpecial?_slot (name := Str.ofString "__len__") hT dq_slot
      (call_meets dq_slot hT (entryFor_of_tree (by kernel_rfl)) (by unfold argsOk; kernel_rfl) (dq_meets a) ⟨ha, ?_⟩))
    show wpAny _ _ _ _ _ { s with toks := s.toks + 1 }
    refine wpAny_bind (wpAny_holding (wpAny_pure ?_))
    refine wpAny_bind (wpAny_letGo ?_)
    show wpAny _ _ (if (0 : Int) < 0 then _ else _) _ _ _
    rw [if_neg (by decide)]
    show wpAny _ _ (if (0 : Int) ≥ 2 ^ 63 then _ else _) _ _ _
    rw [if_neg (by decide)]
    exact wpAny_bind (wpAny_mkInt (wpAny_pure ⟨_, rfl, h _⟩))
  unfold truthy
  first
    | refine wpAny_bind (wpAny_callSpecial?_none (name := Str.ofString "__bool__") hT nb ?_)
    | refine wpAny_bind (wpAny_pure (wpAny_bind (wpAny_callSpecial?_none (name := Str.ofString "__bool__") hT nb ?_)))
  first
    | refine wpAny_bind (wpAny_specialOf (name := Str.ofString "__len__") hT dq_slot.lookup ?_)
    | refine wpAny_bind (wpAny_pure (wpAny_bind (wpAny_specialOf (name := Str.ofString "__len__") hT dq_slot.lookup ?_)))
  first
    | exact wpAny_bind (wpAny_mono key (fun r s' h' => by obtain ⟨t, rfl, hq⟩ := h'; exact wpAny_pure hq) fun _ _ e => e)
    | exact wpAny_bind (wpAny_pure (wpAny_bind (wpAny_mono key (fun r s' h' => by obtain ⟨t, rfl, hq⟩ := h'; exact wpAny_pure hq) fun _ _ e => e)))
end

section
open PySem PySem.W PyProof.Rows PySem.Calls PySem.Spec PySem.W.X
theorem obj_newK {w : World} {A : Around} {s : Shared} {Q : Value → Shared → Prop} {E : Value → Shared → Prop} (KX : (KY w.params).In s.heap)
   (hq : Q (.ref (s.heap.objs.size + 1)) { s with heap := (s.heap.push emptyDict).push (instObj 676 s.heap.objs.size) }) :
   wpAny (model PySem.Challenge.rw_nq0264_01.prog w) A (call (.builtin "object.__new__") [.ref 676]) Q E s := by
  obtain ⟨h, g, d, t, os⟩ := s
  have F := PySem.F.objNew
  have c0 : Looks (model PySem.Challenge.rw_nq0264_01.prog w) h (checkBuiltinCall "object.__new__" ⟨[.ref 676], []⟩) () := Looks.of_peek KX (by kernel_rfl)
  have c1 : Looks (model PySem.Challenge.rw_nq0264_01.prog w) h (isType (.ref 676)) true := Looks.of_peek KX (by kernel_rfl)
  have c2 : Looks (model PySem.Challenge.rw_nq0264_01.prog w) h (Bind.madeHere "object.__new__" (.ref 676)) () := Looks.of_peek KX (by kernel_rfl)
  obtain ⟨c, hc, ec⟩ := any_some (show (clsIn (KY w.params) 676).any (fun c => !c.abstract && !c.hasDel) = true by kernel_rfl)
  have c3 : Looks (model PySem.Challenge.rw_nq0264_01.prog w) h (classData 676) c := looks_clsIn KX hc
  have e1 : c.abstract = false := by cases q : c.abstract <;> simp [q] at ec ⊢
  have e2 : c.hasDel = false := by cases q : c.hasDel <;> simp [q] at ec ⊢
  have c4 : ∀ h', (∀ b o, h.get? b = some o → h'.get? b = some o) → Looks (model PySem.Challenge.rw_nq0264_01.prog w) h' (classHasDel 676) false := fun h' k => Looks.of_peek (KX.keeps k) (by kernel_rfl)
  refine wpAny_call (codeAny_call_builtin_code (Code.quiet_builtin _ F.quiet) (c0 _ _ _ _ (fun _ _ e => e) ?_))
  refine codeAny_builtin F.entry ?_
  unfold Builtin.«object.__new__»
  repeat lk
  simp only [e1, Bool.false_eq_true, if_false]
  show wpAny _ _ ((alloc emptyDict >>= fun x => pure (some x)) >>= _) _ _ _
  refine wpAny_bind (wpAny_bind (wpAny_alloc (wpAny_pure (wpAny_bind ?_))))
  show wpAny _ _ (newObjAsIs _ _ _) _ _ _
  unfold newObjAsIs
  refine wpAny_bind (wpAny_alloc (wpAny_bind (c4 _ (fun _ _ e => Heap.get?_push_of_some _ (Heap.get?_push_of_some _ e)) _ _ _ _ (fun _ _ e => e) ?_)))
  simp only [Bool.false_eq_true, if_false]
  refine wpAny_pure (wpAny_pure ?_)
  show Q _ _
  rw [Heap.size_push]
  exact hq
end

section
open PySem PySem.W PyProof.Rows PySem.Calls PySem.Spec PySem.W.X
theorem mro_dq : mroOf (.type "collections.deque") = pure [.type "collections.deque", .type "object"] := by kernel_rfl
theorem called_dq : TypeCalled "collections.deque" "collections.deque.__new__" "collections.deque.__init__" :=
  ⟨by decide +kernel, by decide +kernel, ⟨_, _, mro_dq⟩, madeBy_type mro_dq (by rw [typeLookup_type, builtinLookup_eq_fast]; kernel_rfl) (by decide +kernel), by decide +kernel, by rw [isSubtype_type]; kernel_rfl,
   Slot.of (owner := "collections.deque") (n := "__init__") (by rw [typeLookup_type, builtinLookup_eq_fast]; kernel_rfl) (by decide +kernel) (by decide +kernel) (by decide +kernel) (.inl (by decide +kernel)) (by rw [isSubtype_type]; kernel_rfl)⟩
theorem dqn_meets : Meets (Builtin.«collections.deque.__new__» ⟨[.type "collections.deque"], []⟩) (fun _ R s => R (.ok (.ret (.ref s.heap.objs.size))) { s with heap := s.heap.push dqObj }) :=
  .of_wp fun prog w A R s h => by
    obtain ⟨hp, g, d, tk, os⟩ := s
    have f2 : isSubtype (.type "collections.deque") (.type Builtin.Deque.ty) = pure true := by show isSubtype (.type "collections.deque") (.type "collections.deque") = pure true; rw [isSubtype_type]; kernel_rfl
    wp_walk
    exact ⟨_, rfl, h⟩
theorem dqi_meets (a : Addr) : Meets (Builtin.«collections.deque.__init__» ⟨[.ref a], []⟩) (fun _ R s => s.heap.get? a = some dqObj ∧ R (.ok (.ret .none)) { s with heap := s.heap.update a (Obj.mapFields (·.setIfInBounds 0 .none)) }) :=
  .of_wp fun prog w A R s h => by
    obtain ⟨hp, g, d, tk, os⟩ := s; obtain ⟨ha, h⟩ := h
    wp_walk using wpAny_setField ha rfl (by decide)
    exact ⟨_, rfl, h⟩
theorem deque_new {w : World} {A : Around} {E : Value → Shared → Prop} {s : Shared} {Q : Value → Shared → Prop} {h₀ : Heap} {L : Addr} {m : Str → Option Value} {news : List (Addr × Obj)} (F : Fr h₀ L s.heap m) (N : News h₀ L s.heap news) (_h1 : A.handled = none) (_h2 : A.depth ≤ 800) (_h3 : A.units ≤ 5000)
   (ret : ∀ (x : Nat) (h' : Heap) (tk' : Nat), Fr h₀ L h' m → News h₀ L h' ((x, dqObj) :: news) → (∀ p ∈ news, p.1 ≠ x) → Q (.ref x) { s with heap := h', toks := tk' }) :
   wpAny (model PySem.Challenge.rw_nq0264_01.prog w) A (call (.type "collections.deque") []) Q E s := by
  have N' := N.push F dqObj
  have q := N' _ (.head _)
  have ne : ∀ p ∈ news, p.1 ≠ s.heap.objs.size := fun p hp => Nat.ne_of_lt (Heap.lt_size (N p hp).1)
  refine callType_meets (Bi := Builtin.«collections.deque.__init__») (Q₁ := fun obj s₁ => obj = .ref s.heap.objs.size ∧ s₁ = { s with heap := s.heap.push dqObj }) called_dq (by kernel_rfl) (by kernel_rfl) (entryFor_of_tree (by kernel_rfl)) (entryFor_of_tree (by kernel_rfl)) dqn_meets ⟨rfl, rfl⟩ fun obj s₁ hq => ?_
  obtain ⟨rfl, rfl⟩ := hq
  refine ⟨⟨_, q.1, rfl⟩, by unfold argsOk; kernel_rfl, _, dqi_meets _, q.1, rfl, ?_⟩
  have hs := Heap.SameBut.update (s.heap.push dqObj) s.heap.objs.size (Obj.mapFields (·.setIfInBounds 0 .none))
  refine ret _ _ s.toks ((F.push dqObj).change hs q.2.1 q.2.2) (fun p hp => ?_) ne
  rcases List.mem_cons.mp hp with rfl | hp
  · exact ⟨Heap.get?_update_self (Obj.mapFields (·.setIfInBounds 0 .none)) q.1 rfl, q.2⟩
  · exact ⟨hs.extBut _ _ (ne p hp) (N' p (.tail _ hp)).1, (N' p (.tail _ hp)).2⟩
end

section
inductive S4 where
  | nn | sp | wd | dq | sq
noncomputable def S4.val (t : Tok) : S4 → Value
  | .nn => .none
  | .sp => .str (Str.ofString " ") t
  | .wd => .str (Str.ofString "a") t
  | .dq => .str (Str.ofString "\"") t
  | .sq => .str (Str.ofString "'") t
structure Out4 where
  tok : List Nat
  q : Bool
  eof : Bool
  rest : List Nat
/-- what read_token reads -/
noncomputable def rd : S4 → Bool → List Nat → List Nat → Option Out4
  | .nn, _, _, [] => some ⟨[], false, true, []⟩
  | .nn, _, _, _ :: _ => none
  | .sp, q, t, [] => some ⟨t, q, true, []⟩
  | .sp, q, t, c :: r => if c = 32 then rd .sp q t r else if c = 34 then rd .dq q t r else if c = 39 then rd .sq q t r else rd .wd q [c] r
  | .wd, q, t, [] => some ⟨t, q, true, []⟩
  | .wd, q, t, c :: r => if c = 32 then some ⟨t, q, false, r⟩ else if c = 34 then rd .dq q t r else if c = 39 then rd .sq q t r else rd .wd q (t ++ [c]) r
  | .dq, _, _, [] => none
  | .dq, _, t, c :: r => if c = 34 then rd .wd true t r else rd .dq true (t ++ [c]) r
  | .sq, _, _, [] => none
  | .sq, _, t, c :: r => if c = 39 then rd .wd true t r else rd .sq true (t ++ [c]) r
/-- the state between two turns -/
structure Mid (S : S4) (q : Bool) (t : List Nat) : Prop where
  nn : S = .nn → t = [] ∧ q = false
  sp : S = .sp → t = [] ∧ q = false
  wd : S = .wd → t ≠ [] ∨ q = true
inductive LoopJ (w : World) (xa xd sa sd pb fs : Nat) (ex : List (Addr × Obj)) (cs : List Nat) (R : Out4) (n : Nat) (m : Str → Option Value) (led : List (Addr × Obj)) : Prop
  | mk (S : S4) (q : Bool) (t : List Nat) (p : Nat) (ts te : Tok) (st : Value) (tok : Str) (pi : Int) (c0 : n = cs.length - p) (c1 : p ≤ cs.length) (c2 : st = S.val ts) (c3 : tok = mkS t) (c4 : pi = p) (c5 : IsLex w xa xd sa sd pb fs st tok (mkS cs) pi ex led) (c6 : Mid S q t) (c7 : rd S q t (cs.drop p) = some R) (c8 : t.length ≤ p) (c9 : m (Str.ofString "self") = some (.ref xa)) (c10 : m (Str.ofString "quoted") = some (.bool q)) (c11 : m (Str.ofString "escapedstate") = some (.str (Str.ofString " ") te)) : LoopJ w xa xd sa sd pb fs ex cs R n m led
inductive LoopP (h₀ : Heap) (L : Addr) (s : Shared) (w : World) (xa xd sa sd pb fs : Nat) (ex : List (Addr × Obj)) (cs : List Nat) (R : Out4) (f : Flow) (s' : Shared) : Prop
  | mk (p0 : f = .next) (h' : Heap) (tk : Nat) (m' : Str → Option Value) (led : List (Addr × Obj)) (ts te : Tok) (p : Nat) (st : Value) (tok : Str) (pi : Int) (c0 : s' = { s with heap := h', toks := tk }) (c1 : Fr h₀ L h' m') (c2 : News h₀ L h' led) (c3 : p ≤ cs.length) (c4 : cs.drop p = R.rest) (c5 : st = (if R.eof then S4.nn else S4.sp).val ts) (c6 : tok = mkS R.tok) (c7 : pi = p) (c8 : R.tok.length ≤ cs.length) (c9 : IsLex w xa xd sa sd pb fs st tok (mkS cs) pi ex led) (c10 : m' (Str.ofString "self") = some (.ref xa)) (c11 : m' (Str.ofString "quoted") = some (.bool R.q)) (c12 : m' (Str.ofString "escapedstate") = some (.str (Str.ofString " ") te)) : LoopP h₀ L s w xa xd sa sd pb fs ex cs R f s'
theorem fr_map3 {h₀ h : Heap} {L : Addr} {m : Str → Option Value} {x y z : Str} {a b c : Value} (F : Fr h₀ L h m) (hx : m x = some a) (hy : m y = some b) (hz : m z = some c) :
    Fr h₀ L h (fun u => if u = x then some a else if u = y then some b else if u = z then some c else m u) := by
  have : (fun u => if u = x then some a else if u = y then some b else if u = z then some c else m u) = m := by
    funext u
    split
    · rename_i e; rw [e, hx]
    · split
      · rename_i e; rw [e, hy]
      · split
        · rename_i e; rw [e, hz]
        · rfl
  rw [this]; exact F
theorem slice_list (l : List Nat) (i j : Nat) (hij : i ≤ j) (hj : j ≤ l.length) : Txt.slice (mkS l) (some (i : Int)) (some (j : Int)) = mkS ((l.drop i).take (j - i)) :=
  StrLaws.sliceText_nat (mkS l) hij hj
theorem slice1 {cs : List Nat} {p c : Nat} {r : List Nat} (h : cs.drop p = c :: r) : Txt.slice (mkS cs) (some (p : Int)) (some ((p : Int) + 1)) = mkS [c] := by
  have hl := congrArg List.length h
  rw [List.length_drop, List.length_cons] at hl
  have := slice_list cs p (p + 1) (Nat.le_succ p) (by omega)
  rw [h, Nat.add_sub_cancel_left] at this
  exact this
theorem loop_go {w : World} {A : Around} {E : Value → Shared → Prop} {Q : Flow → Shared → Prop} {s : Shared} {env : Env} {h₀ : Heap} {L : Addr} {test : Expr} {body : List Stmt} {pos : Pos} {m : Str → Option Value} {ex led : List (Addr × Obj)} {xa xd sa sd pb fs : Nat} {cs : List Nat} {R : Out4} {n₀ : Nat}
    (F : Fr h₀ L s.heap m) (N : News h₀ L s.heap led) (hJ : LoopJ w xa xd sa sd pb fs ex cs R n₀ m led)
    (turn : ∀ n m₁ led₁ h₁ tk₁, Fr h₀ L h₁ m₁ → News h₀ L h₁ led₁ → LoopJ w xa xd sa sd pb fs ex cs R n m₁ led₁ →
      wpAny (model PySem.Challenge.rw_nq0264_01.prog w) A (isTrue test env (eval test env)) (fun b s₂ =>
        if b = true then wpAny (model PySem.Challenge.rw_nq0264_01.prog w) A (execs body env) (WhileStep2 h₀ L s (LoopJ w xa xd sa sd pb fs ex cs R) (LoopP h₀ L s w xa xd sa sd pb fs ex cs R) n) E s₂ else LoopP h₀ L s w xa xd sa sd pb fs ex cs R .next s₂) E { s with heap := h₁, toks := tk₁ })
    (hE : PassesOwn (model PySem.Challenge.rw_nq0264_01.prog w) A env E) (rest : ∀ f s', LoopP h₀ L s w xa xd sa sd pb fs ex cs R f s' → Q f s') :
    wpAny (model PySem.Challenge.rw_nq0264_01.prog w) A (exec (.While test body [] pos) env) Q E s :=
  wpAny_mono (While_inv2 (LoopJ w xa xd sa sd pb fs ex cs R) F N hJ turn hE) rest (fun _ _ x => x)
theorem leafB {h₀ h' : Heap} {L : Addr} {s : Shared} {J : Nat → (Str → Option Value) → List (Addr × Obj) → Prop} {w : World} {xa xd sa sd pb fs : Nat} {ex led : List (Addr × Obj)} {cs : List Nat} {R : Out4} {n : Nat} {m' : Str → Option Value} {ts te : Tok} {p : Nat} {st : Value} {tok : Str} {pi : Int} {tk : Nat}
    (F : Fr h₀ L h' m') (N : News h₀ L h' led) (hp : p ≤ cs.length) (hd : cs.drop p = R.rest) (hst : st = (if R.eof then S4.nn else S4.sp).val ts) (ht : tok = mkS R.tok) (hpi : pi = p) (hl : R.tok.length ≤ cs.length) (I : IsLex w xa xd sa sd pb fs st tok (mkS cs) pi ex led)
    (m1 : m' (Str.ofString "self") = some (.ref xa)) (m2 : m' (Str.ofString "quoted") = some (.bool R.q)) (m3 : m' (Str.ofString "escapedstate") = some (.str (Str.ofString " ") te)) :
    WhileStep2 h₀ L s J (LoopP h₀ L s w xa xd sa sd pb fs ex cs R) n .brk { s with heap := h', toks := tk } :=
  ⟨rfl, h', tk, m', led, ts, te, p, st, tok, pi, rfl, F, N, hp, hd, hst, ht, hpi, hl, I, m1, m2, m3⟩
theorem loopJ_mk {w : World} {xa xd sa sd pb fs : Nat} {ex led : List (Addr × Obj)} {cs : List Nat} {R : Out4} {m' : Str → Option Value} (S : S4) (q : Bool) (t : List Nat) {ts te : Tok} (p : Nat) {st : Value} {tok : Str} {pi : Int}
    (hp : p ≤ cs.length) (hst : st = S.val ts) (ht : tok = mkS t) (hpi : pi = p) (I : IsLex w xa xd sa sd pb fs st tok (mkS cs) pi ex led) (M : Mid S q t) (hr : rd S q t (cs.drop p) = some R) (hl : t.length ≤ p)
    (m1 : m' (Str.ofString "self") = some (.ref xa)) (m2 : m' (Str.ofString "quoted") = some (.bool q)) (m3 : m' (Str.ofString "escapedstate") = some (.str (Str.ofString " ") te)) :
    LoopJ w xa xd sa sd pb fs ex cs R (cs.length - p) m' led := ⟨S, q, t, p, ts, te, st, tok, pi, rfl, hp, hst, ht, hpi, I, M, hr, hl, m1, m2, m3⟩
theorem leafN {h₀ h' : Heap} {L : Addr} {s : Shared} {J : Nat → (Str → Option Value) → List (Addr × Obj) → Prop} {Q : Flow → Shared → Prop} {led : List (Addr × Obj)} {n n' : Nat} {m' : Str → Option Value} {tk : Nat} (F : Fr h₀ L h' m') (N : News h₀ L h' led) (hn : n' < n) (j : J n' m' led) : WhileStep2 h₀ L s J Q n .next { s with heap := h', toks := tk } := ⟨h', tk, m', led, n', rfl, F, N, hn, j⟩
theorem leafC {h₀ h' : Heap} {L : Addr} {s : Shared} {J : Nat → (Str → Option Value) → List (Addr × Obj) → Prop} {Q : Flow → Shared → Prop} {led : List (Addr × Obj)} {n n' : Nat} {m' : Str → Option Value} {tk : Nat} (F : Fr h₀ L h' m') (N : News h₀ L h' led) (hn : n' < n) (j : J n' m' led) : WhileStep2 h₀ L s J Q n .cont { s with heap := h', toks := tk } := ⟨h', tk, m', led, n', rfl, F, N, hn, j⟩
theorem midD {q : Bool} {t : List Nat} : Mid .dq q t := ⟨fun h => (by cases h), fun h => (by cases h), fun h => (by cases h)⟩
theorem midS {q : Bool} {t : List Nat} : Mid .sq q t := ⟨fun h => (by cases h), fun h => (by cases h), fun h => (by cases h)⟩
theorem midP : Mid .sp false [] := ⟨fun h => (by cases h), fun _ => ⟨rfl, rfl⟩, fun h => (by cases h)⟩
theorem midW {q : Bool} {t : List Nat} (h : t ≠ [] ∨ q = true) : Mid .wd q t := ⟨fun h => (by cases h), fun h => (by cases h), fun _ => h⟩
theorem midA {q : Bool} {t : List Nat} {c : Nat} : Mid .wd q (t ++ [c]) := midW (.inl (by simp))
theorem rd9 {S : S4} {q : Bool} {t l l' : List Nat} {R : Option Out4} (e : l = l') (h : rd S q t l' = R) : rd S q t l = R := e ▸ h
theorem lenA {t : List Nat} {c p : Nat} (h : t.length ≤ p) : (t ++ [c]).length ≤ p + 1 := by rw [List.length_append]; exact Nat.succ_le_succ h
theorem pS {p : Nat} : ((p : Int) + 1) = ((p + 1 : Nat) : Int) := rfl
theorem ft {b : Bool} {P : Prop} (h : b = false) (h' : b = true) : P := by rw [h] at h'; cases h'
theorem eqD : (mkS [34] == Str.ofString "\"") = true := by rw [e6]; exact beq_self_eq_true _
theorem eqS : (mkS [39] == Str.ofString "'") = true := by rw [e7]; exact beq_self_eq_true _
theorem nb0 {b : Bool} (h : b = false) : (!b) = true := by rw [h]; rfl
theorem nb1 {b : Bool} (h : b = true) : (!b) = false := by rw [h]; rfl
theorem mkS_len {t : List Nat} {n : Nat} (h : t.length ≤ n) : (mkS t).length ≤ n := h
theorem news_tl {h₀ h : Heap} {L : Addr} {p : Addr × Obj} {l : List (Addr × Obj)} (N : News h₀ L h (p :: l)) : News h₀ L h l := fun q hq => N q (List.mem_cons_of_mem _ hq)
theorem neS {c d : Nat} {x : String} (e : Str.ofString x = mkS [d]) (h : c ≠ d) : (mkS [c] == Str.ofString x) = false := by
  rw [e]
  refine beq_eq_false_iff_ne.mpr fun q => h ?_
  injection q with q1
  injection q1 with q2
  injection q2
theorem isW {c : Nat} (hc : okc c) (h : (Builtin.Str.occurrences (Str.ofString " \t\r\n") (mkS [c]) 0 (Str.ofString " \t\r\n").length 1).isEmpty = false) : c = 32 := Decidable.byContradiction fun n => ft h (occW hc n)
theorem noW {c : Nat} (h : (Builtin.Str.occurrences (Str.ofString " \t\r\n") (mkS [c]) 0 (Str.ofString " \t\r\n").length 1).isEmpty = true) : c ≠ 32 := fun e => by subst e; exact ft occW1 h
theorem isQ {c : Nat} (h : (Builtin.Str.occurrences (Str.ofString "'\"") (mkS [c]) 0 (Str.ofString "'\"").length 1).isEmpty = false) : c = 34 ∨ c = 39 := Decidable.byContradiction fun n => ft h (occQ (fun e => n (.inl e)) (fun e => n (.inr e)))
theorem noQ1 {c : Nat} (h : (Builtin.Str.occurrences (Str.ofString "'\"") (mkS [c]) 0 (Str.ofString "'\"").length 1).isEmpty = true) : c ≠ 34 := fun e => by subst e; exact ft occQ1 h
theorem noQ2 {c : Nat} (h : (Builtin.Str.occurrences (Str.ofString "'\"") (mkS [c]) 0 (Str.ofString "'\"").length 1).isEmpty = true) : c ≠ 39 := fun e => by subst e; exact ft occQ2 h
theorem noC1 {c : Nat} (h : (Builtin.Str.occurrences WC (mkS [c]) 0 WC.length 1).isEmpty = false) : c ≠ 34 := fun e => by subst e; exact ft h occC1
theorem noC2 {c : Nat} (h : (Builtin.Str.occurrences WC (mkS [c]) 0 WC.length 1).isEmpty = false) : c ≠ 39 := fun e => by subst e; exact ft h occC2
theorem isD {c : Nat} (h : (mkS [c] == Str.ofString "\"") = true) : c = 34 := Decidable.byContradiction fun n => ft (neS e6 n) h
theorem noD {c : Nat} (h : (mkS [c] == Str.ofString "\"") = false) : c ≠ 34 := fun e => by subst e; exact ft h eqD
theorem isS {c : Nat} (h : (mkS [c] == Str.ofString "'") = true) : c = 39 := Decidable.byContradiction fun n => ft (neS e7 n) h
theorem noS {c : Nat} (h : (mkS [c] == Str.ofString "'") = false) : c ≠ 39 := fun e => by subst e; exact ft h eqS
theorem rsp1 {c : Nat} {q : Bool} {t r : List Nat} {R : Option Out4} (h : c = 32) (e : rd .sp q t (c :: r) = R) : rd .sp q t r = R := by rw [rd, if_pos h] at e; exact e
theorem rsp2 {c : Nat} {q : Bool} {t r : List Nat} {R : Option Out4} (h : c = 34) (e : rd .sp q t (c :: r) = R) : rd .dq q t r = R := by rw [rd, if_neg (by rw [h]; decide), if_pos h] at e; exact e
theorem rsp3 {c : Nat} {q : Bool} {t r : List Nat} {R : Option Out4} (h : c = 39) (e : rd .sp q t (c :: r) = R) : rd .sq q t r = R := by rw [rd, if_neg (by rw [h]; decide), if_neg (by rw [h]; decide), if_pos h] at e; exact e
theorem rsp4 {c : Nat} {q : Bool} {t r : List Nat} {R : Option Out4} (h1 : c ≠ 32) (h2 : c ≠ 34) (h3 : c ≠ 39) (e : rd .sp q t (c :: r) = R) : rd .wd q [c] r = R := by rw [rd, if_neg h1, if_neg h2, if_neg h3] at e; exact e
theorem rwd1 {c : Nat} {q : Bool} {t r : List Nat} {R : Option Out4} (h : c = 32) (e : rd .wd q t (c :: r) = R) : some ⟨t, q, false, r⟩ = R := by rw [rd, if_pos h] at e; exact e
theorem rwd2 {c : Nat} {q : Bool} {t r : List Nat} {R : Option Out4} (h : c = 34) (e : rd .wd q t (c :: r) = R) : rd .dq q t r = R := by rw [rd, if_neg (by rw [h]; decide), if_pos h] at e; exact e
theorem rwd3 {c : Nat} {q : Bool} {t r : List Nat} {R : Option Out4} (h : c = 39) (e : rd .wd q t (c :: r) = R) : rd .sq q t r = R := by rw [rd, if_neg (by rw [h]; decide), if_neg (by rw [h]; decide), if_pos h] at e; exact e
theorem rwd4 {c : Nat} {q : Bool} {t r : List Nat} {R : Option Out4} (h1 : c ≠ 32) (h2 : c ≠ 34) (h3 : c ≠ 39) (e : rd .wd q t (c :: r) = R) : rd .wd q (t ++ [c]) r = R := by rw [rd, if_neg h1, if_neg h2, if_neg h3] at e; exact e
theorem rdq1 {c : Nat} {q : Bool} {t r : List Nat} {R : Option Out4} (h : c = 34) (e : rd .dq q t (c :: r) = R) : rd .wd true t r = R := by rw [rd, if_pos h] at e; exact e
theorem rdq2 {c : Nat} {q : Bool} {t r : List Nat} {R : Option Out4} (h : c ≠ 34) (e : rd .dq q t (c :: r) = R) : rd .dq true (t ++ [c]) r = R := by rw [rd, if_neg h] at e; exact e
theorem rsq1 {c : Nat} {q : Bool} {t r : List Nat} {R : Option Out4} (h : c = 39) (e : rd .sq q t (c :: r) = R) : rd .wd true t r = R := by rw [rd, if_pos h] at e; exact e
theorem rsq2 {c : Nat} {q : Bool} {t r : List Nat} {R : Option Out4} (h : c ≠ 39) (e : rd .sq q t (c :: r) = R) : rd .sq true (t ++ [c]) r = R := by rw [rd, if_neg h] at e; exact e
theorem vD {c : Nat} (h : c = 34) (u : Tok) : Value.str (mkS [c]) u = S4.dq.val u := by rw [h, ← e6]; rfl
theorem vS {c : Nat} (h : c = 39) (u : Tok) : Value.str (mkS [c]) u = S4.sq.val u := by rw [h, ← e7]; rfl
noncomputable def retV (R : Out4) (t : Tok) : Value := if R.q = false ∧ R.tok = [] then .none else .str (mkS R.tok) t
theorem retV1 {R : Out4} {t : Tok} (h : R.q = true) : retV R t = .str (mkS R.tok) t := if_neg (by rw [h]; simp)
theorem retV2 {R : Out4} {t : Tok} (h : R.q = false) (e : (mkS R.tok == Str.ofString "") = true) : retV R t = .none := if_pos ⟨h, by rw [e0] at e; have := eq_of_beq e; injection this with q1; injection q1⟩
theorem retV3 {R : Out4} {t : Tok} (e : (mkS R.tok == Str.ofString "") = false) : retV R t = .str (mkS R.tok) t := if_neg (by rintro ⟨_, h⟩; rw [h, e0] at e; simp at e)
theorem use1 {Q : Value → Shared → Prop} {v v' : Value} {s : Shared} (e : v = v') (h : Q v s) : Q v' s := e ▸ h
theorem sA1 : (!(Builtin.Str.occurrences (Str.ofString "'\"") (Str.ofString "a") 0 (Str.ofString "'\"").length 1).isEmpty) = false := by rw [e8]; exact nb1 (occQ (by decide) (by decide))
theorem sA2 : (!(Builtin.Str.occurrences (Str.ofString "\\") (Str.ofString "a") 0 (Str.ofString "\\").length 1).isEmpty) = false := by rw [e8]; exact nb1 (occE (by decide))
theorem sD1 : (!(Builtin.Str.occurrences (Str.ofString "'\"") (Str.ofString "\"") 0 (Str.ofString "'\"").length 1).isEmpty) = true := by rw [e6]; exact nb0 occQ1
theorem sS1 : (!(Builtin.Str.occurrences (Str.ofString "'\"") (Str.ofString "'") 0 (Str.ofString "'\"").length 1).isEmpty) = true := by rw [e7]; exact nb0 occQ2
theorem str_app (t : List Nat) (c : Nat) : mkS t ++ mkS [c] = mkS (t ++ [c]) := by
  show (⟨(⟨t⟩ : Array Nat) ++ (⟨[c]⟩ : Array Nat)⟩ : Str) = ⟨⟨t ++ [c]⟩⟩
  rw [List.append_toArray]
section
variable {w : World} {pg : Program} {lz : List Str} {mean : ExcName → Option Value} {mg mb : Str → Option Value} {dp un : Nat} {gd : Option (List Code)} {cn : Str} {cs : Scope} {a : Addr} {ccd : Value} {cl : List (Str × Addr)} {outer : List Env} {A₀ : Around} {base h₀ : Heap} {L : Addr} {m : Str → Option Value} {s : Shared} {Q E : Value → Shared → Prop}
end
end

section
theorem retV_or (R : Out4) (t : Tok) : retV R t = .none ∨ retV R t = .str (mkS R.tok) t := by
  unfold retV
  split
  · exact .inl rfl
  · exact .inr rfl
section
variable {w : World} {pg : Program} {lz : List Str} {mean : ExcName → Option Value} {mg mb : Str → Option Value} {dp un : Nat} {gd : Option (List Code)} {cn : Str} {cs : Scope} {a : Addr} {ccd : Value} {cl : List (Str × Addr)} {outer : List Env} {A₀ : Around} {base h₀ : Heap} {L : Addr} {m : Str → Option Value} {s : Shared} {Q E : Value → Shared → Prop}
end
end

section
theorem retV_n {R : Out4} {t : Tok} (h : retV R t = .none) : R.q = false ∧ R.tok = [] := by
  unfold retV at h
  split at h
  · assumption
  · cases h
theorem retV_s {R : Out4} {t : Tok} (h : retV R t = .str (mkS R.tok) t) : ¬ (R.q = false ∧ R.tok = []) := by
  unfold retV at h
  split at h
  · cases h
  · assumption
theorem owit_stopS {M : Model} {A A₀ : Around} {E : Value → Shared → Prop} {s : Shared} {Q : Option Value → Shared → Prop} {base G h₀ : Heap} {outer : List Env} {L a e t : Addr} {m : Str → Option Value} {name : Str} {scope : Scope} {cd : Value} {vs : List Value} {news : List (Addr × Obj)} {X : String}
    (R : RaisedS base G (envOf name scope L a cd :: outer) e (.type X) t vs news s.heap) (hsm : G.UpToSlots s.heap) (F : Fr h₀ L G m) (K : Below A₀ base outer h₀) (hsub : isSubtype (.type X) (.type "StopIteration") = pure true)
    (k : ∀ g', KtsTurn (outer.filterMap (·.frame)) h₀ g' → Fr g' L s.heap m → Below A₀ base outer g' → News g' L s.heap news → Q none s) : OwitStop M A Q E (.ref e) s := by
  obtain ⟨⟨B, hB, hBG, hl, hfl, hnew⟩, htup⟩ := R
  have hL : B.get? L = none := by
    obtain ⟨_, ⟨L', _, hf, hn', _⟩, _⟩ := hfl.2.2.1
    obtain rfl : L = L' := Option.some.inj hf
    exact hn'
  obtain ⟨ob, hob, hobc⟩ := hfl.there
  have hT : s.TypeIs (.ref e) X := (show ∃ o, s.heap.get? e = some o ∧ o.cls = .type X from ⟨ob, hob, hobc⟩)
  obtain ⟨g', T, F', K'⟩ := kts_ground K F hBG hfl.1 hsm
  unfold OwitStop
  refine wpAny_isInstance hT hsub ?_
  show (if true = true then Q none s else E (.ref e) s)
  rw [if_pos rfl]
  exact k g' T F' K' fun q hq => ⟨hfl.1 _ _ (hl q hq).1, (fun z => by have := (hl q hq).1; rw [z, hL] at this; cases this), T.none_ _ (kts_none F.keep (hl q hq).2.1)⟩
section
variable {w : World} {pg : Program} {lz : List Str} {mean : ExcName → Option Value} {mg mb : Str → Option Value} {dp un : Nat} {gd : Option (List Code)} {cn : Str} {cs : Scope} {a : Addr} {ccd : Value} {cl : List (Str × Addr)} {outer : List Env} {A₀ : Around} {base h₀ : Heap} {L : Addr} {m : Str → Option Value} {s : Shared} {Q E : Value → Shared → Prop}
end
end

section
/-- all the words -/
noncomputable def splitAll : Nat → S4 → List Nat → Option (List (List Nat))
  | 0, _, _ => none
  | n + 1, S, cs => match rd S false [] cs with
    | none => none
    | some R => if R.q = false ∧ R.tok = [] then some [] else (splitAll n (if R.eof then S4.nn else S4.sp) R.rest).map (R.tok :: ·)
inductive StrsAre : List Value → List (List Nat) → Prop where
  | nil : StrsAre [] []
  | cons {t : List Nat} {k : Tok} {vs : List Value} {ts : List (List Nat)} : StrsAre vs ts → StrsAre (.str (mkS t) k :: vs) (t :: ts)
noncomputable abbrev lst (acc : Array Value) (c : Nat) : Obj := { cls := .type "list", data := .seq acc c }
theorem IsLex.swap {w : World} {xa xd sa sd pb fs : Nat} {st : Value} {tok buf : Str} {pos : Int} {ex led : List (Addr × Obj)} (I : IsLex w xa xd sa sd pb fs st tok buf pos ex led) :
    ∃ six, led = six ++ ex ∧ (∀ ex', IsLex w xa xd sa sd pb fs st tok buf pos ex' (six ++ ex')) ∧ ∀ p ∈ six, p.1 = xa ∨ p.1 = xd ∨ p.1 = sa ∨ p.1 = sd ∨ p.1 = pb ∨ p.1 = fs := by
  obtain ⟨kk, jj, rfl⟩ := I
  refine ⟨[_, _, _, _, _, _], rfl, fun ex' => isLex_mk, ?_⟩
  intro p hp
  simp only [List.mem_cons, List.not_mem_nil, or_false] at hp
  rcases hp with rfl | rfl | rfl | rfl | rfl | rfl <;> simp
structure Far (l : Nat) (xa xd sa sd pb fs : Nat) (ex : List (Addr × Obj)) : Prop where
  b1 : xa ≠ l ∧ xd ≠ l ∧ sa ≠ l ∧ sd ≠ l ∧ pb ≠ l ∧ fs ≠ l
  b2 : ∀ p ∈ ex, p.1 ≠ l
section
variable {w : World} {pg : Program} {lz : List Str} {mean : ExcName → Option Value} {mg mb : Str → Option Value} {dp un : Nat} {gd : Option (List Code)} {cn : Str} {cs : Scope} {a : Addr} {ccd : Value} {outer : List Env} {A₀ : Around} {base : Heap} {L : Addr} {m : Str → Option Value}
end
end

section
section
variable {w : World} {pg : Program} {lz : List Str} {mean : ExcName → Option Value} {mg mb : Str → Option Value} {dp un : Nat} {gd : Option (List Code)} {cn : Str} {cs : Scope} {a : Addr} {ccd : Value} {cl : List (Str × Addr)} {outer : List Env} {A₀ : Around} {base h₀ : Heap} {L : Addr} {m : Str → Option Value} {s : Shared} {Q E : Value → Shared → Prop}
end
theorem upd_head {h₀ h : Heap} {L l : Addr} {m : Str → Option Value} {o o' : Obj} {led : List (Addr × Obj)} {f : Obj → Obj} (F : Fr h₀ L h m) (N : News h₀ L h ((l, o) :: led)) (hne : ∀ p ∈ led, p.1 ≠ l) (e : f o = o') (hf : o'.isFreed = false) :
    Fr h₀ L (h.update l f) m ∧ News h₀ L (h.update l f) ((l, o') :: led) := by
  have hl := N (l, o) (.head _)
  have hs : Heap.SameBut l h (h.update l f) := Heap.SameBut.update ..
  have ge : (h.update l f).get? l = some o' := by
    rw [← e]
    exact Heap.get?_update_self f hl.1 (by rw [e]; exact hf)
  exact ⟨F.change hs hl.2.1 hl.2.2, news_set (pre := []) N (fun _ h => nomatch h) hne hs ge⟩
theorem no_len_lex (w : World) : findIn (KY w.params) (.ref 811) "__len__" = some none := by kernel_rfl
theorem no_hint_lex (w : World) : findIn (KY w.params) (.ref 811) "__length_hint__" = some none := by kernel_rfl
end

section
noncomputable def slot4 (K : Frag) (C : Addr) : Bool := match K.lookup C with
  | some ⟨_, _, .cls cd, sl⟩ => !cd.abstract && !cd.hasDel && (sl.toList[4]?).join == some .none && !cd.mro.isEmpty && cd.mro.contains (.ref C) && cd.mro.contains (.type "object") &&
      specialIn K (.ref C) "__call__" == some (some (.builtin "type.__call__")) && instIn K (.ref C) (.type "type") == some true
  | _ => false
theorem slot4_sio (w : World) : slot4 (KY w.params) 676 = true := by kernel_rfl
section
variable {prog : Program} {w : World} {A : Around} {K : Frag} {C : Addr} {R : Result → Shared → Prop} {s : Shared}
theorem check_b {M : Model} {A : Around} {E : Value → Shared → Prop} {s : Shared} {i owner n : String} {self : Value} {rest : List Value} {kw : List (Str × Value)} {Q : Unit → Shared → Prop}
    (hk : builtinKind i = some .slot) (hs : splitId i = some (owner, n)) (hi : Looks M s.heap (isInstance self (.type owner)) true) (ha : argsOk i ⟨self :: rest, kw⟩) (q : Q () s) :
    Bx (wpAny M A (checkBuiltinCall i ⟨self :: rest, kw⟩) Q E s) := Bx.mk (check_slot hk hs hi ha q)
theorem type_call_new {rest : List Value} {kw : List (Str × Value)} (X : K.In s.heap) (e : slot4 K C = true)
    (hq : wpAny (model prog w) (A.under (.builtin "type.__call__" ⟨.ref C :: rest, kw⟩)) (getAttr (.ref C) "__new__") (fun new s₁ => wpAny (model prog w) (A.under (.builtin "type.__call__" ⟨.ref C :: rest, kw⟩)) (call new (.ref C :: rest) kw) (fun obj s₂ =>
        wpAny (model prog w) (A.under (.builtin "type.__call__" ⟨.ref C :: rest, kw⟩)) (isInstance obj (.ref C)) (fun b s₃ => b = true ∧ wpAny (model prog w) (A.under (.builtin "type.__call__" ⟨.ref C :: rest, kw⟩)) (callSpecial? obj "__init__" rest kw) (fun r s₄ => r = some .none ∧ R (.ok (.ret obj)) s₄) (fun e s' => R (.error e) s') s₃) (fun e s' => R (.error e) s') s₂) (fun e s' => R (.error e) s') s₁) (fun e s' => R (.error e) s') s) :
    codeAny (model prog w) A (.call (.ref C) ⟨rest, kw⟩) R s := by
  unfold slot4 at e
  split at e
  · rename_i oc od cd sl ho
    simp only [Bool.and_eq_true, Bool.not_eq_true', beq_iff_eq] at e
    obtain ⟨⟨⟨⟨⟨⟨⟨e1, e2⟩, e3⟩, e4⟩, e5⟩, e6⟩, e7⟩, e8⟩ := e
    have hC := X _ _ ho
    have hc : clsIn K C = some cd := by unfold clsIn; rw [ho]
    have hm : Looks (model prog w) s.heap (mroOf (.ref C)) cd.mro := (looks_clsIn X hc).andThen .now
    obtain ⟨c, l, hl⟩ : ∃ c l, cd.mro = c :: l := by cases q : cd.mro with | nil => rw [q] at e4; cases e4 | cons c l => exact ⟨c, l, rfl⟩
    have made : Looks (model prog w) s.heap (Bind.madeBy (.ref C)) none := by
      intro A Q E s k q
      unfold Bind.madeBy
      refine wpAny_bind (hm A _ E s k ?_)
      rw [hl, List.forIn_cons]
      refine wpAny_bind (wpAny_bind (wpAny_bind (wpAny_bind (wpAny_loadPart (k _ _ (X _ _ ho)) (wpAny_pure ?_)))))
      dsimp only
      rw [← Array.getElem?_toList, e3]
      exact wpAny_pure (wpAny_pure (wpAny_pure q))
    have call := looks_specialIn (M := model prog w) X e7
    have typ := looks_instIn (M := model prog w) X e8
    refine codeAny_of_tree ?_
    show wpAny _ _ (callAny (.ref C) _) _ _ _
    refine nd_load hC ?_
    show wpAny _ _ (callAny.viaDunder (.ref C) _) _ _ _
    unfold callAny.viaDunder
    refine wpAny_bind (call.at ?_)
    dsimp only
    rw [tc_bind]
    refine wpAny_bind (wpAny_pure (wpAny_bind (wpAny_pure ?_)))
    refine wpAny_pure (a := Fin.again (.call (.builtin "type.__call__") ⟨.ref C :: rest, kw⟩)) (And.intro rfl ?_)
    refine codeAny_call_builtin_at (Code.quiet_builtin _ (by decide +kernel)) entry_typeCall ?_
    with_reducible refine Bx.out ?_
    refine check_b tc_kind tc_split typ (tc_args _ _ _) ?_
    unfold Builtin.«type.__call__»
    iterate 9 (first | simp only [e4, Bool.false_eq_true, if_false] | lk)
    refine wpAny_mono hq (fun new s₁ h1 => wpAny_bind (wpAny_holding (wpAny_mono h1 (fun obj s₂ h2 => wpAny_bind (wpAny_mono h2 (fun b s₃ h3 => ?_) (fun _ _ z => z))) (fun _ _ z => z)))) (fun _ _ z => z)
    obtain ⟨rfl, h3⟩ := h3
    simp only [Bool.not_true, Bool.false_eq_true, if_false]
    refine wpAny_bind (wpAny_holding (wpAny_mono h3 (fun r s₄ h4 => ?_) (fun _ _ z => z)))
    obtain ⟨rfl, h4⟩ := h4
    exact wpAny_pure h4
  · cases e
end
theorem du_make (A : Around) (C : Addr) (r : List Value) (k : List (Str × Value)) : (A.under (.builtin "type.__call__" ⟨.ref C :: r, k⟩)).depth = A.depth + 1 := by
  first | rfl | simp [Around.under, Code.weight, Code.frames, Code.isFrame, Code.isCreation, Code.isGuard, Code.isCaller, guardIds]
theorem uu_make (A : Around) (C : Addr) (r : List Value) (k : List (Str × Value)) : (A.under (.builtin "type.__call__" ⟨.ref C :: r, k⟩)).units = A.units + 1 := by
  first | rfl | simp [Around.under, Code.cUnits, Code.frames, Code.isFrame]
theorem isInst_here {M : Model} {A : Around} {E : Value → Shared → Prop} {s : Shared} {K : Frag} {x C L : Addr} {h₀ : Heap} {m : Str → Option Value} {ox : Obj} {od : Option Obj} {Q : Bool → Shared → Prop} (F : Fr h₀ L s.heap m) (X : K.In h₀) (I : InstAt s.heap x ox C od) (hs : subIn K (.ref C) (.ref C) = some true) (h : Q true s) : wpAny M A (isInstance (.ref x) (.ref C)) Q E s :=
  Looks.here (I.type.andThen (looks_subIn (X.keeps F.keep) hs)) h
theorem special_here {M : Model} {A : Around} {E : Value → Shared → Prop} {s : Shared} {K : Frag} {x C L f : Addr} {h₀ : Heap} {m : Str → Option Value} {ox : Obj} {od : Option Obj} {name : Str} {args : List Value} {Q : Option Value → Shared → Prop} (F : Fr h₀ L s.heap m) (X : K.In h₀) (I : InstAt s.heap x ox C od)
    (hs : findIn K (.ref C) name = some (some (.ref f))) (hf : isFn K (.ref f) = true) (h : wpAny M A (call (.ref f) (.ref x :: args)) (fun v => Q (some v)) E s) :
    wpAny M A (callSpecial? (.ref x) name args) Q E s := special_fn (X.keeps F.keep) I hs (beq_iff_eq.mp hf) h
theorem news_drop2 {h₀ h : Heap} {L : Addr} {p q r t : Addr × Obj} {l : List (Addr × Obj)} (N : News h₀ L h (p :: q :: r :: t :: l)) : News h₀ L h (p :: q :: l) := fun x hx => N x (by revert x; repeat' (first | with_reducible exact sub_refl | with_reducible refine sub_cons ?_ ?_ | with_reducible refine sub_tail ?_ | with_reducible assumption | with_reducible exact List.mem_cons_self | with_reducible refine List.mem_cons_of_mem _ ?_))
theorem obj_new {w : World} {A : Around} {E : Value → Shared → Prop} {s : Shared} {Q : Value → Shared → Prop} {h₀ : Heap} {L : Addr} {m : Str → Option Value} {news : List (Addr × Obj)} (F : Fr h₀ L s.heap m) (N : News h₀ L s.heap news) (X : (KY w.params).In h₀) (_h1 : A.handled = none) (_h2 : A.depth ≤ 800) (_h3 : A.units ≤ 5000)
   (ret : ∀ (x d : Nat) (h' : Heap) (tk' : Nat), Fr h₀ L h' m → News h₀ L h' ((x, instObj 676 d) :: (d, dictOf [] 0) :: news) → (∀ p ∈ news, p.1 ≠ d ∧ p.1 ≠ x) → d ≠ x → Q (.ref x) { s with heap := h', toks := tk' }) :
   wpAny (model PySem.Challenge.rw_nq0264_01.prog w) A (call (.builtin "object.__new__") [.ref 676]) Q E s := by
  have N' := (N.push F emptyDict).push (F.push _) (instObj 676 s.heap.objs.size)
  rw [Heap.size_push] at N'
  exact obj_newK (X.keeps F.keep) (ret _ _ _ s.toks ((F.push _).push _) N' (fun p hp => ⟨Nat.ne_of_lt (Heap.lt_size (N p hp).1), Nat.ne_of_lt (Nat.lt_succ_of_lt (Heap.lt_size (N p hp).1))⟩) (Nat.ne_of_lt (Nat.lt_succ_self _)))
section
variable {w : World} {pg : Program} {lz : List Str} {mean : ExcName → Option Value} {mg mb : Str → Option Value} {dp un : Nat} {gd : Option (List Code)} {cn : Str} {cs : Scope} {a : Addr} {ccd : Value} {cl : List (Str × Addr)} {outer : List Env} {A₀ : Around} {base h₀ : Heap} {L : Addr} {m : Str → Option Value} {s : Shared} {Q E : Value → Shared → Prop}
end
end

section
theorem news_five {h₀ h : Heap} {L : Addr} {p1 p2 p3 p4 p5 p6 : Addr × Obj} {l : List (Addr × Obj)} (N : News h₀ L h (p6 :: p5 :: p3 :: p4 :: p1 :: p2 :: l)) : News h₀ L h (p1 :: p2 :: p3 :: p4 :: p5 :: p6 :: l) := fun x hx => N x (by revert x; repeat' (first | with_reducible exact sub_refl | with_reducible refine sub_cons ?_ ?_ | with_reducible refine sub_tail ?_ | with_reducible assumption | with_reducible exact List.mem_cons_self | with_reducible refine List.mem_cons_of_mem _ ?_))
section
variable {w : World} {pg : Program} {lz : List Str} {mean : ExcName → Option Value} {mg mb : Str → Option Value} {dp un : Nat} {gd : Option (List Code)} {cn : Str} {cs : Scope} {a : Addr} {ccd : Value} {cl : List (Str × Addr)} {outer : List Env} {A₀ : Around} {base h₀ : Heap} {L : Addr} {m : Str → Option Value} {s : Shared} {Q E : Value → Shared → Prop}
end
end

section
theorem tokN {a b : Nat} (h : @Ne Nat a b) : @Ne Tok a b := h
theorem mkS_app (a b : List Nat) : mkS a ++ mkS b = mkS (a ++ b) := by
  show (⟨(⟨a⟩ : Array Nat) ++ (⟨b⟩ : Array Nat)⟩ : Str) = ⟨⟨a ++ b⟩⟩
  rw [List.append_toArray]
/-- every sign c of l put as z -/
noncomputable def rp (c : Nat) (z : List Nat) : List Nat → List Nat
  | [] => []
  | k :: r => (if k = c then z else [k]) ++ rp c z r
theorem rp_append (c : Nat) (z : List Nat) : ∀ a b : List Nat, rp c z (a ++ b) = rp c z a ++ rp c z b
  | [], _ => rfl
  | k :: r, b => by simp only [List.cons_append, rp, rp_append c z r b, List.append_assoc]
theorem rp_free (c : Nat) (z : List Nat) : ∀ l : List Nat, c ∉ l → rp c z l = l
  | [], _ => rfl
  | k :: r, h => by
    have h1 : ¬ k = c := fun e => h (e ▸ List.mem_cons_self ..)
    have h2 : c ∉ r := fun m => h (List.mem_cons_of_mem _ m)
    simp only [rp, if_neg h1, rp_free c z r h2, List.cons_append, List.nil_append]
theorem rp_join (c : Nat) (z : List Nat) : ∀ parts : List Str, (∀ p ∈ parts, c ∉ p.cps.toList) → rp c z (Str.join (mkS [c]) parts).cps.toList = (Str.join (mkS z) parts).cps.toList
  | [], _ => rfl
  | [p], h => rp_free c z _ (h p (List.mem_singleton.mpr rfl))
  | p :: q :: r, h => by
    have ih := rp_join c z (q :: r) fun a ha => h a (List.mem_cons_of_mem _ ha)
    show rp c z (p ++ mkS [c] ++ Str.join (mkS [c]) (q :: r)).cps.toList = (p ++ mkS z ++ Str.join (mkS z) (q :: r)).cps.toList
    simp only [Str.cps_append, Array.toList_append]
    rw [rp_append, rp_append, ih, rp_free c z _ (h p (List.mem_cons_self ..))]
    simp [rp]
theorem replS (l z : List Nat) (c : Nat) : Txt.replace (mkS l) (mkS [c]) (mkS z) = mkS (rp c z l) := by
  have e : (Txt.replace (mkS l) (mkS [c]) (mkS z)).cps.toList = rp c z l := by
    rw [StrLaws.replace_one, ← rp_join c z _ (StrLaws.split_free (mkS l) c), StrLaws.join_split]
  have := StrLaws.mk_of_toList e
  exact this
theorem rp_len (c : Nat) (z : List Nat) (n : Nat) (hz : z.length ≤ n) (h1 : 1 ≤ n) : ∀ l : List Nat, (rp c z l).length ≤ n * l.length
  | [] => by simp [rp]
  | k :: r => by
    have ih := rp_len c z n hz h1 r
    simp only [rp, List.length_append, List.length_cons, Nat.mul_add, Nat.mul_one]
    split
    · omega
    · simp only [List.length_singleton]; omega
noncomputable def rep (n : Nat) (l : List Nat) : List Nat := (List.replicate n l).flatten
theorem foldl_app (l : List Nat) : ∀ (n : Nat) (acc : List Nat), (List.replicate n (⟨l⟩ : Array Nat)).foldl (· ++ ·) ⟨acc⟩ = ⟨acc ++ rep n l⟩
  | 0, acc => by simp [rep]
  | n + 1, acc => by
    rw [List.replicate_succ, List.foldl_cons, List.append_toArray, foldl_app l n]
    simp [rep, List.replicate_succ]
theorem mulS_eq (l : List Nat) (n : Int) (h0 : 0 ≤ n) : Txt.mul (mkS l) n = mkS (rep n.toNat l) := by
  unfold Txt.mul
  split
  · have : n.toNat = 0 := by omega
    rw [this]; rfl
  · split
    · rename_i h1 h2
      rcases Bool.or_eq_true_iff.mp h2 with h2 | h2
      · have : n = 1 := by simpa using h2
        subst this
        simp [rep]
      · have h3 : l.length = 0 := eq_of_beq h2
        have : l = [] := List.eq_nil_of_length_eq_zero h3
        subst this
        simp [rep]
    · rw [foldl_app]; rfl
theorem rep_len (n : Nat) (l : List Nat) : (rep n l).length = n * l.length := by
  simp [rep]
theorem lbR {n k a : Nat} {l : List Nat} (hn : n ≤ k) (hl : l.length ≤ a) : (rep n l).length ≤ k * a := by rw [rep_len]; exact Nat.mul_le_mul hn hl
noncomputable def dig (n : Int) : List Nat := (Str.ofString (toString n)).cps.toList
section
variable {w : World} {A : Around} {E : Value → Shared → Prop} {s : Shared} {Q : Value → Shared → Prop}
theorem addS {x y : Str} {p q : List Nat} {t u : Tok} (hx : x = mkS p) (hy : y = mkS q) (hl : p.length + q.length ≤ 100000) (h : ∀ t' k, Q (.str (mkS (p ++ q)) t') { s with toks := k }) :
    Bx (wpAny (model PySem.Challenge.rw_nq0264_01.prog w) A (binaryOp .Add (.str x t) (.str y u)) Q E s) := by
  refine Bx.mk ?_
  subst hx hy
  refine PyProof.Rows.add_str (fun t' k => ?_) (by rw [sizeLine_eq]; show p.length + q.length ≤ _; omega)
  rw [mkS_app]; exact h t' k
theorem mulS {x : Str} {p : List Nat} {n : Int} {t u : Tok} (hx : x = mkS p) (h0 : 0 ≤ n) (h1 : n ≤ 10) (hl : p.length ≤ 1000) (h : ∀ t' k, Q (.str (mkS (rep n.toNat p)) t') { s with toks := k }) :
    Bx (wpAny (model PySem.Challenge.rw_nq0264_01.prog w) A (binaryOp .Mult (.str x t) (.int n u)) Q E s) := by
  refine Bx.mk ?_
  subst hx
  refine SB.mul ⟨?_, ?_, ?_⟩ (fun t' k => ?_)
  · rw [decide_eq_false (by omega), decide_eq_false (by omega)]; rfl
  · intro h2 _ h3
    have h4 : (2 ^ 63 - 1 : Int) / 10 ≤ (2 ^ 63 - 1) / n := by
      have h5 : 0 < n := Int.lt_of_lt_of_le (by decide : (0 : Int) < 1) (Int.not_lt.mp h2)
      exact Int.le_ediv_of_mul_le h5 (Int.le_trans (Int.mul_le_mul_of_nonneg_left h1 (by decide)) (by decide))
    have h6 : (((mkS p).length : Nat) : Int) ≤ 1000 := Int.ofNat_le.mpr hl
    exact absurd (Int.lt_of_lt_of_le h3 (Int.le_trans h6 (by decide : (1000 : Int) ≤ (2 ^ 63 - 1) / 10))) (Int.not_lt.mpr h4)
  · intro _ _
    have h6 : (mkS p).length * n.toNat ≤ 1000 * 10 := Nat.mul_le_mul hl (Int.toNat_le.mpr h1)
    unfold Builtin.Str.tooLong
    exact decide_eq_false (Nat.not_lt.mpr (le16 h6 (by decide)))
  · rw [mulS_eq p n h0]; exact h t' k
theorem strI {n : Int} {t : Tok} (h0 : 0 ≤ n) (h1 : n < 1000) (h : ∀ t' k, Q (.str (mkS (dig n)) t') { s with toks := k }) :
    Bx (wpAny (model PySem.Challenge.rw_nq0264_01.prog w) A (call (.type "str") [.int n t]) Q E s) := by
  refine Bx.mk ?_
  refine P.str_of_int (shown (N := 1000) (by omega) (by omega) (by decide +kernel)) ?_
  exact h s.toks (s.toks + 1)
theorem itemS {x : Str} {p : List Nat} {n : Int} {t u : Tok} {value slice : PySem.Expr} (hx : x = mkS p) (h0 : 0 ≤ n) (h1 : n < (p.length : Int)) (hl : p.length ≤ 100000) (h : ∀ t' k, Q (.str (mkS [p.getD n.toNat 0]) t') { s with toks := k })
    (hs : subscripted slice false (.str x t) (.int n u) = operate [.str x t, .int n u] (getItem (.str x t) (.int n u)) := by with_unfolding_all rfl)
    (ht : ∀ r, letTemporaryGo value (.str x t) r = pure () := by intro _; with_unfolding_all rfl) :
    Bx (wpAny (model PySem.Challenge.rw_nq0264_01.prog w) A (subscriptTail value slice (.str x t) (.int n u)) Q E s) := by
  refine Bx.mk ?_
  subst hx
  have h2 : (((mkS p).length : Nat) : Int) = (p.length : Int) := rfl
  refine item_str (fitsSsize_of (N := 9223372036854775808) (by omega) (by omega) (Int.le_refl _)) (by omega) (by omega) (fun _ => ?_) hs ht
  have e : Txt.item (mkS p) n = mkS [p.getD n.toNat 0] := by
    unfold Txt.item
    have e2 : Txt.charAt (mkS p) n = some (p.getD n.toNat 0) := by
      refine StrLaws.at_nonneg h0 ?_
      show (⟨p⟩ : Array Nat)[n.toNat]? = _
      rw [List.getElem?_toArray, List.getD_eq_getElem?_getD, List.getElem?_eq_getElem (by omega)]
      rfl
    rw [e2]; rfl
  rw [e]; exact h _ _
end
end

section
noncomputable abbrev cellO (v : Option Value) : Obj := { cls := .type "cell", data := .cell v }
/-- what an element's walk must hand on: the four own objects of the comprehension stand as they stood, the ledger has grown -/
inductive EltEnd (h₀ : Heap) (L : Addr) (m : Str → Option Value) (s₁ : Shared) (own : List (Addr × Obj)) (news : List (Addr × Obj)) (K : Value → List (Addr × Obj) → Prop) (y : Value) (s₂ : Shared) : Prop
  | mk (h' : Heap) (tk : Nat) (add : List (Addr × Obj)) (c0 : s₂ = { s₁ with heap := h', toks := tk }) (c1 : Fr h₀ L h' m) (c2 : News h₀ L h' (own ++ (add ++ news))) (c3 : (∀ p ∈ add, ∀ q ∈ own, p.1 ≠ q.1)) (c4 : K y add) : EltEnd h₀ L m s₁ own news K y s₂
section
variable {prog : Program} {w : World} {A : Around} {E : Value → Shared → Prop} {s : Shared} {h₀ : Heap} {L : Addr} {m : Str → Option Value} {env : Env}
theorem newEnv_C {scope : Scope} {cl : List (Str × Addr)} {x : Str} {Q : Env → Shared → Prop}
    (hcf : ∀ n, cellsFrom n scope.names cl = (x, n) :: cl) (hpc : ∀ h, pushCells h scope.names = h.push (cellO none))
    (hQ : Q { scope := scope, locals := s.heap.objs.size, globals := env.globals, cells := (x, s.heap.objs.size + 1) :: cl, qual := env.qual, func := none, code := env.code, frame := env.frame, builtins := env.builtins }
      { s with heap := (s.heap.push { cls := .type "dict", data := .dict #[] }).push (cellO none) }) :
    wpAny (model prog w) A (newFunctionEnv scope env.globals cl [] env.qual none .none (some env)) Q E s := by
  simp only [newFunctionEnv, Option.isSome_some, if_true]
  refine wpAny_bind (wpAny_alloc ?_)
  refine wpAny_bind (wpAny_layCells _ (fun name kind cells => by cases hkc : kind == NameKind.cell <;> simp [hkc]) _ _ _ _ ?_)
  rw [show ({ s with heap := s.heap.push { cls := .type "dict", data := .dict #[] } } : Shared).heap.objs.size = s.heap.objs.size + 1 from Heap.size_push .., hcf, hpc]
  rw [List.forIn_nil]
  exact wpAny_bind (wpAny_pure (wpAny_pure hQ))
noncomputable def CO (I : Nat) (l : List (Addr × Obj)) : Prop := ∀ p ∈ l, p.1 ≠ I ∧ p.1 ≠ I + 3 ∧ p.1 ≠ I + 2 ∧ p.1 ≠ I + 1
inductive CI (h₀ : Heap) (L : Addr) (m : Str → Option Value) (s : Shared) (I ax : Nat) (its : Array Value) (oC : Obj) (J : Nat → List Value → List (Addr × Obj) → Prop) (news : List (Addr × Obj)) (k : Nat) (s' : Shared) : Prop
  | mk (h' : Heap) (tk : Nat) (i : Nat) (ys : List Value) (add : List (Addr × Obj)) (oc : Obj) (v₀ : Option Value) (c0 : s' = { s with heap := h', toks := tk }) (c1 : i ≤ its.size) (c2 : k = its.size + 1 - i) (c3 : ys.length = i) (c4 : (h'.IsListIter I ax i ∧ h'.IsList ax its)) (c5 : Fr h₀ L h' m) (c6 : oc.data = .cell v₀) (c7 : News h₀ L h' ([(I + 3, oc), (I + 2, oC), (I + 1, LCg.lst ys)] ++ (add ++ news))) (c8 : CO I (add ++ news)) (c9 : J i ys add) : CI h₀ L m s I ax its oC J news k s'
theorem c_offI {I : Nat} {oc oC D : Obj} {l : List (Addr × Obj)} (off : CO I l) : ∀ p ∈ [(I + 3, oc), (I + 2, oC), (I + 1, D)] ++ l, p.1 ≠ I := by
  simp only [List.cons_append, List.nil_append, List.forall_mem_cons]
  exact ⟨Nat.ne_of_gt (Nat.lt_add_of_pos_right (by decide)), Nat.ne_of_gt (Nat.lt_add_of_pos_right (by decide)), Nat.ne_of_gt (Nat.lt_add_of_pos_right (by decide)), fun p hp => (off p hp).1⟩
theorem c_n3 {h₀ h h₃ : Heap} {L : Addr} {I : Nat} {oc oc' oC D oI : Obj} {l : List (Addr × Obj)} (N : News h₀ L h ([(I + 3, oc), (I + 2, oC), (I + 1, D)] ++ l)) (hs : ∀ b o, (b : Nat) ≠ I + 3 → h.get? b = some o → h₃.get? b = some o) (off : CO I l)
   (hI : h₃.get? I = some oI) (ho : h₃.get? (I + 3) = some oc') (hL : @LT.lt Nat _ L I) (fr : h₀.get? I = none) : News h₀ L h₃ ([(I, oI), (I + 3, oc'), (I + 2, oC), (I + 1, D)] ++ l) := fun p hp => by
  rcases List.mem_cons.mp hp with rfl | hp
  · exact ⟨hI, Ne.symm (Nat.ne_of_lt hL), fr⟩
  rcases List.mem_cons.mp hp with rfl | hp
  · exact ⟨ho, (N _ (.head _)).2⟩
  rcases List.mem_cons.mp hp with rfl | hp
  · have q := N (I + 2, oC) (.tail _ (.head _))
    exact ⟨hs _ _ (Nat.ne_of_lt (Nat.lt_succ_self _)) q.1, q.2⟩
  rcases List.mem_cons.mp hp with rfl | hp
  · have q := N (I + 1, D) (.tail _ (.tail _ (.head _)))
    exact ⟨hs _ _ (Nat.ne_of_lt (Nat.lt_succ_of_lt (Nat.lt_succ_self _))) q.1, q.2⟩
  · have q := N p (.tail _ (.tail _ (.tail _ hp)))
    exact ⟨hs _ _ (off p hp).2.1 q.1, q.2⟩
theorem c_n5 {h₀ h h₅ : Heap} {L : Addr} {I : Nat} {oc' oC D D' oI : Obj} {l : List (Addr × Obj)} (N : News h₀ L h ([(I, oI), (I + 3, oc'), (I + 2, oC), (I + 1, D)] ++ l)) (hs : ∀ b o, (b : Nat) ≠ I + 1 → h.get? b = some o → h₅.get? b = some o) (off : CO I l)
   (hD : h₅.get? (I + 1) = some D') : News h₀ L h₅ ([(I + 3, oc'), (I + 2, oC), (I + 1, D')] ++ l) := fun p hp => by
  rcases List.mem_cons.mp hp with rfl | hp
  · have q := N (I + 3, oc') (.tail _ (.head _))
    exact ⟨hs _ _ (Nat.ne_of_gt (Nat.lt_succ_of_lt (Nat.lt_succ_self _))) q.1, q.2⟩
  rcases List.mem_cons.mp hp with rfl | hp
  · have q := N (I + 2, oC) (.tail _ (.tail _ (.head _)))
    exact ⟨hs _ _ (Nat.ne_of_gt (Nat.lt_succ_self _)) q.1, q.2⟩
  rcases List.mem_cons.mp hp with rfl | hp
  · exact ⟨hD, (N (I + 1, D) (.tail _ (.tail _ (.tail _ (.head _))))).2⟩
  · have q := N p (.tail _ (.tail _ (.tail _ (.tail _ hp))))
    exact ⟨hs _ _ (off p hp).2.2.2 q.1, q.2⟩
theorem c_fin {h₀ h h₂ : Heap} {L : Addr} {I : Nat} {oc oC D : Obj} {l : List (Addr × Obj)} (N : News h₀ L h ([(I + 3, oc), (I + 2, oC), (I + 1, D)] ++ l)) (hs : ∀ b o, (b : Nat) ≠ I + 2 → h.get? b = some o → h₂.get? b = some o) (off : CO I l) : News h₀ L h₂ ((I + 1, D) :: l) := fun p hp => by
  rcases List.mem_cons.mp hp with rfl | hp
  · have q := N (I + 1, D) (.tail _ (.tail _ (.head _)))
    exact ⟨hs _ _ (Nat.ne_of_lt (Nat.lt_succ_self _)) q.1, q.2⟩
  · have q := N p (.tail _ (.tail _ (.tail _ hp)))
    exact ⟨hs _ _ (off p hp).2.2.1 q.1, q.2⟩
theorem c_off5 {I : Nat} {oI oc oC D : Obj} {l l' : List (Addr × Obj)} (off : CO I l) (sep : ∀ p ∈ l', ∀ q ∈ [(I, oI), (I + 3, oc), (I + 2, oC), (I + 1, D)], p.1 ≠ q.1) : CO I (l' ++ l) := fun p hp => by
  rcases List.mem_append.mp hp with hp | hp
  · exact ⟨sep p hp _ (.head _), sep p hp _ (.tail _ (.head _)), sep p hp _ (.tail _ (.tail _ (.head _))), sep p hp _ (.tail _ (.tail _ (.tail _ (.head _))))⟩
  · exact off p hp
theorem c_off0 {I : Nat} {l : List (Addr × Obj)} (pl : ∀ p ∈ l, @LT.lt Nat _ p.1 I) : CO I l := fun p hp => ⟨Nat.ne_of_lt (pl p hp), Nat.ne_of_lt (Nat.lt_of_lt_of_le (pl p hp) (Nat.le_add_right _ _)), Nat.ne_of_lt (Nat.lt_of_lt_of_le (pl p hp) (Nat.le_add_right _ _)), Nat.ne_of_lt (Nat.lt_of_lt_of_le (pl p hp) (Nat.le_add_right _ _))⟩
theorem ListComp_C {elt iter : Expr} {x : Str} {px : Pos} {scope : Scope} {cl : List (Str × Addr)} {pos : Pos} {Q : Value → Shared → Prop}
    (hclos : closureFor scope env = pure cl) (hcf : ∀ n, cellsFrom n scope.names cl = (x, n) :: cl) (hpc : ∀ h, pushCells h scope.names = h.push (cellO none))
    (hkind : scope.kind = .function) (hnames : ∀ y ∈ scope.names, y.2 = .local → scope.names.lookup y.1 = some .local)
    (hxk : ∀ C cl', (compEnvC scope cl' C env).kindOf x = some .cell)
    (hh : A.handled = none) {J : Nat → List Value → List (Addr × Obj) → Prop} {ax : Addr} {its : Array Value} {c : Nat} {news : List (Addr × Obj)} (hax : (ax, listOf its c) ∈ news) (hsz : its.size ≤ sizeLine)
    (F : Fr h₀ L s.heap m) (N : News h₀ L s.heap news) (hJ : J 0 [] [])
    (h : wpAny (model prog w) A (eval iter env) (fun xv s₁ => xv = .ref ax ∧ s₁ = s) E s)
    (step : ∀ i ys add v I oI cx oc C oC D h tk E', its[i]? = some v → J i ys add → oc.data = .cell (some v) → Fr h₀ L h m → News h₀ L h ([(I, oI), (cx, oc), (C, oC), (D, LCg.lst ys)] ++ (add ++ news)) →
      (∀ p ∈ add ++ news, p.1 ≠ I ∧ p.1 ≠ cx ∧ p.1 ≠ C ∧ p.1 ≠ D) →
      wpAny (model prog w) A (eval elt (compEnvC scope ((x, cx) :: cl) C env)) (EltEnd h₀ L m { s with heap := h, toks := tk } [(I, oI), (cx, oc), (C, oC), (D, LCg.lst ys)] (add ++ news) (fun y add' => J (i + 1) (ys ++ [y]) (add' ++ add))) E' { s with heap := h, toks := tk })
    (fin : ∀ ys add D h tk, ys.length = its.size → J its.size ys add → Fr h₀ L h m → News h₀ L h ((D, LCg.lst ys) :: (add ++ news)) → (∀ p ∈ news, p.1 < D) → (∀ p ∈ add, p.1 ≠ D) → Q (.ref D) { s with heap := h, toks := tk })
    (hs : ∀ x, foldedSetIterable iter env x = pure x := by intro _; rfl) :
    wpAny (model prog w) A (eval (.ListComp elt [⟨.Name x px, iter, [], 0⟩] scope pos) env) Q E s := by
  rw [eval_ListComp]
  refine wpAny_comprehension_free (use := none) rfl hs hclos hkind hnames (wpAny_mono h (fun xv s₁ h₁ => ?_) fun _ _ e => e)
  obtain ⟨rfl, rfl⟩ := h₁
  have hl : s₁.heap.IsList ax its := ⟨_, (N _ hax).1, rfl, _, rfl⟩
  have hlt : ax < s₁.heap.objs.size := Heap.lt_size (N _ hax).1
  refine wpAny_pyIter_list hl ?_
  refine wpAny_newObj_type (newEnv_C hcf hpc ?_)
  dsimp only
  generalize hI : s₁.heap.objs.size = I at *
  generalize hH1 : s₁.heap.push { cls := .type "list_iterator", data := .fields #[.ref ax, .int 0 0] } = H1
  generalize hH2 : H1.push { cls := .type "list", dict := none, data := .seq ([] : List Value).toArray } = H2
  generalize hH3 : H2.push { cls := .type "dict", data := .dict #[] } = H3
  generalize hH4 : H3.push (cellO none) = H4
  have z1 : H1.objs.size = I + 1 := by rw [← hH1, Heap.size_push, hI]
  have z2 : H2.objs.size = I + 2 := by rw [← hH2, Heap.size_push, z1]
  have z3 : H3.objs.size = I + 3 := by rw [← hH3, Heap.size_push, z2]
  rw [z1, z2]
  have old : ∀ b o, s₁.heap.get? b = some o → H4.get? b = some o := fun b o e => hH4 ▸ Heap.get?_push_of_some _ (hH3 ▸ Heap.get?_push_of_some _ (hH2 ▸ Heap.get?_push_of_some _ (hH1 ▸ Heap.get?_push_of_some _ e)))
  have gI : H4.get? I = some { cls := .type "list_iterator", data := .fields #[.ref ax, .int 0 0] } := hH4 ▸ Heap.get?_push_of_some _ (hH3 ▸ Heap.get?_push_of_some _ (hH2 ▸ Heap.get?_push_of_some _ (by rw [← hH1, ← hI]; exact Heap.get?_push_size _ rfl)))
  have gD : H4.get? (I + 1) = some (LCg.lst []) := hH4 ▸ Heap.get?_push_of_some _ (hH3 ▸ Heap.get?_push_of_some _ (by rw [← hH2, ← z1]; exact Heap.get?_push_size _ rfl))
  have gC : H4.get? (I + 2) = some { cls := .type "dict", data := .dict #[] } := hH4 ▸ Heap.get?_push_of_some _ (by rw [← hH3, ← z2]; exact Heap.get?_push_size _ rfl)
  have gx : H4.get? (I + 3) = some (cellO none) := by rw [← hH4, ← z3]; exact Heap.get?_push_size _ rfl
  have nsC : H4.Ns (I + 2) (fun _ => none) := (by rw [← z2]; exact hH3 ▸ Heap.Ns.new H2 (.type "dict") : H3.Ns (I + 2) (fun _ => none)).keeps fun b o e => hH4 ▸ Heap.get?_push_of_some _ e
  obtain ⟨oC, heC, hoC⟩ := LCg.ns_obj nsC
  have fresh₀ : ∀ a, I ≤ a → h₀.get? a = none := fun a ha => by
    cases e : h₀.get? a with
    | none => rfl
    | some o' => exact absurd (hI ▸ Heap.lt_size (F.keep a o' e)) (Nat.not_lt.mpr ha)
  have hLlt : @LT.lt Nat _ L I := hI ▸ F.ns.lt
  have pl : ∀ p ∈ news, p.1 < I := fun p hp => hI ▸ Heap.lt_size (N p hp).1
  have W := Walks.list (prog := prog) (w := w) hh I ax (Nat.ne_of_lt hlt) its
  have St0 : H4.IsListIter I ax 0 ∧ H4.IsList ax its := ⟨⟨_, gI, rfl, rfl⟩, ⟨_, old _ _ (N _ hax).1, rfl, _, rfl⟩⟩
  have loop : codeAny (model prog w) A (.compLoop (.ListComp elt [⟨.Name x px, iter, [], 0⟩] scope pos) 0 (.ref I) (.ref (I + 1)) (compEnvC scope ((x, I + 3) :: cl) (I + 2) env))
        (compPost (model prog w) A E none Q (.ref (I + 1)) (I + 2)) { s₁ with heap := H4 } := by
    refine codeAny_compLoop_tests (CI h₀ L m s₁ I ax its oC J news) ?_ (its.size + 1)
      ⟨H4, _, 0, [], [], cellO none, none, rfl, Nat.zero_le _, rfl, rfl, St0, F.keeps old, rfl, ?_, c_off0 pl, hJ⟩
    · rintro k s' ⟨h', tk, i, ys, add, oc, v₀, rfl, hi, rfl, hyl, hst', F', hoc, N', off', hJ'⟩
      by_cases hlt : i < its.size
      · refine W.item i _ _ _ hlt hst' fun v h₂ tk₂ hPv hst₂ hk₂ => ?_
        have N₂ := LCg.news_but N' hk₂ (c_offI off')
        have mo := N₂ (I + 3, oc) (.head _)
        refine wpAny_assign_Name (wpAny_storeName_cell (c := I + 3) (v₀ := v₀) (by simp [compEnvC, relabel, hkind]) (hxk _ _) (by simp [compEnvC]) ⟨_, mo.1, hoc⟩ (fun h₃ hc₃ hs₃ => ?_))
        refine wpAny_tests_nil ?_
        simp only [if_true]
        obtain ⟨oc', ho', hd'⟩ := hc₃
        have F₃ := (LCg.fr_but F' hk₂ (Nat.ne_of_lt hLlt) (fresh₀ I (Nat.le_refl _))).change hs₃ mo.2.1 mo.2.2
        obtain ⟨oI, heI, hoI⟩ := hst₂.1
        have N₃ := c_n3 N₂ (fun b o q e => hs₃.extBut b o q e) off' (hs₃.extBut _ _ (Nat.ne_of_lt (Nat.lt_add_of_pos_right (by decide))) heI) ho' hLlt (fresh₀ _ (Nat.le_refl _))
        refine wpAny_mono (step i ys add v I oI (I + 3) oc' (I + 2) oC (I + 1) h₃ tk₂ _ hPv hJ' hd' F₃ N₃ off') (fun y s₄ h₄ => ?_) fun _ _ e => e
        clear N₃ F₃ N₂ mo
        obtain ⟨h₄, tk₄, add₄, rfl, F₄, N₄, sep₄, hJ₄⟩ := h₄
        have qD := N₄ (I + 1, LCg.lst ys) (.tail _ (.tail _ (.tail _ (.head _))))
        refine append_at (hsz := by show ys.toArray.size ≤ sizeLine; rw [List.size_toArray, hyl]; exact Nat.le_trans hi hsz) qD.1 fun h₅ hs₅ hD₅ => ?_
        have off₅ := c_off5 off' sep₄
        have ma : (ax, listOf its c) ∈ add₄ ++ (add ++ news) := List.mem_append.mpr (.inr (List.mem_append.mpr (.inr hax)))
        refine ⟨its.size + 1 - (i + 1), Nat.sub_lt_sub_left (Nat.lt_succ_of_lt hlt) (Nat.lt_succ_self i), h₅, tk₄, i + 1, ys ++ [y], add₄ ++ add, oc', some v, rfl, hlt, rfl, by rw [List.length_append, List.length_singleton, hyl],
          ⟨⟨oI, hs₅.extBut _ _ (Nat.ne_of_lt (Nat.lt_succ_self _)) (N₄ (I, oI) (.head _)).1, hoI⟩, ⟨_, hs₅.extBut _ _ (off₅ _ ma).2.2.2 (N₄ _ (.tail _ (.tail _ (.tail _ (.tail _ ma))))).1, rfl, _, rfl⟩⟩, F₄.change hs₅ qD.2.1 qD.2.2, hd', ?_, (List.append_assoc ..) ▸ off₅, hJ₄⟩
        rw [List.append_assoc]
        exact c_n5 N₄ (fun b o q e => hs₅.extBut b o q e) off₅ (hD₅.trans (congrArg some (LCg.lst_snoc ys y)))
      · obtain rfl : i = its.size := Nat.le_antisymm hi (Nat.not_lt.mp hlt)
        refine W.done _ _ _ hst' fun h₂ tk₂ hk₂ => ?_
        have N₂ := LCg.news_but N' hk₂ (c_offI off')
        have qC := N₂ (I + 2, oC) (.tail _ (.head _))
        exact ⟨_, hoC.ns qC.1, fun h'' hs'' => fin ys add (I + 1) h'' tk₂ hyl hJ' ((LCg.fr_but F' hk₂ (Nat.ne_of_lt hLlt) (fresh₀ I (Nat.le_refl _))).change hs'' qC.2.1 qC.2.2) (c_fin N₂ (fun b o q e => hs''.extBut b o q e) off') (fun p hp => Nat.lt_succ_of_lt (pl p hp)) (fun p hp => (off' p (List.mem_append.mpr (.inl hp))).2.2.2)⟩
    · have nw : ∀ b o, @LE.le Nat _ I b → H4.get? b = some o → H4.get? b = some o ∧ b ≠ L ∧ h₀.get? b = none := fun b o hb e => ⟨e, Ne.symm (Nat.ne_of_lt (Nat.lt_of_lt_of_le hLlt hb)), fresh₀ b hb⟩
      intro p hp
      rcases List.mem_cons.mp hp with rfl | hp
      · exact nw _ _ (Nat.le_add_right _ _) gx
      rcases List.mem_cons.mp hp with rfl | hp
      · exact nw _ _ (Nat.le_add_right _ _) heC
      rcases List.mem_cons.mp hp with rfl | hp
      · exact nw _ _ (Nat.le_add_right _ _) gD
      · exact ⟨old _ _ (N p hp).1, (N p hp).2⟩
  exact codeAny_compStart_list loop (W.self 0 _ _ _ St0 loop)
theorem Stop9C {M : Model} {elt : Expr} {gens : List Comprehension} {scope : Scope} {pos : Pos} {Q : Value → Shared → Prop} (_hpc : ∀ h, pushCells h scope.names = h.push (cellO none)) (h : Stop9 (wpAny M A (eval (.ListComp elt gens scope pos) env) Q E s)) : wpAny M A (eval (.ListComp elt gens scope pos) env) Q E s := h
end
end

section
noncomputable def sgn : Nat → List Nat
  | 0 => [34]
  | 1 => [39]
  | 2 => [32]
  | 3 => [97]
  | 4 => [47]
  | _ => []
noncomputable def fld (x : Int) : List Nat := sgn (x / 256 % 6).toNat ++ sgn (x / 256 / 6 % 6).toNat ++ sgn (x / 256 / 36 % 6).toNat
noncomputable def fldD (x : Int) : Dat := .tuple [.int (x % 64), .str (mkS (fld x))]
section
variable {w : World} {pg : Program} {lz : List Str} {mean : ExcName → Option Value} {mg mb : Str → Option Value} {dp un : Nat} {gd : Option (List Code)} {cn : Str} {cs : Scope} {a : Addr} {ccd : Value} {cl : List (Str × Addr)} {outer : List Env} {A₀ : Around} {base h₀ : Heap} {L : Addr} {m : Str → Option Value} {s : Shared} {Q E : Value → Shared → Prop}

theorem intsAt {nv : List Value} {xs : List Int} (h : IntsAre nv xs) : ∀ {i : Nat} {v : Value}, nv.toArray[i]? = some v → ∃ x t, v = .int x t ∧ xs[i]? = some x := by
  induction h with
  | nil => intro i v h; simp at h
  | cons n t h ih =>
    intro i v h
    cases i with
    | zero => simp at h; exact ⟨n, t, h.symm, rfl⟩
    | succ i => simp at h; simpa using ih (i := i) (v := v) (by simpa using h)
noncomputable def FldJ (xs : List Int) (news : List (Addr × Obj)) (i : Nat) (ys : List Value) (add : List (Addr × Obj)) : Prop :=
  DatAll add ys ((xs.take i).map fldD) ∧ ∀ p ∈ add, ∀ q ∈ news, q.1 < p.1
noncomputable abbrev sgL (t0 t1 t2 t3 t4 t5 : Tok) : Array Value := #[.str (Str.ofString "\"") t0, .str (Str.ofString "'") t1, .str (Str.ofString " ") t2, .str (Str.ofString "a") t3, .str (Str.ofString "/") t4, .str (Str.ofString "") t5]
noncomputable def Signs (o : Obj) : Prop := ∃ t0 t1 t2 t3 t4 t5, o = listOf (sgL t0 t1 t2 t3 t4 t5) 0
theorem signs_pack {h₀ h : Heap} {L l' : Addr} {t0 t1 t2 t3 t4 t5 : Tok} {rest : List (Addr × Obj)} (N : News h₀ L h ((l', listOf (sgL t0 t1 t2 t3 t4 t5) 0) :: rest)) : ∃ osg, Signs osg ∧ News h₀ L h ((l', osg) :: rest) := ⟨_, ⟨t0, t1, t2, t3, t4, t5, rfl⟩, N⟩
theorem news_sub {h₀ h : Heap} {L : Addr} {l l' : List (Addr × Obj)} (N : News h₀ L h l) (hs : ∀ p ∈ l', p ∈ l) : News h₀ L h l' := fun p hp => N p (hs p hp)
theorem sg_at (t0 t1 t2 t3 t4 t5 : Tok) (k : Nat) (hk : k < 6) : ∃ t, (sgL t0 t1 t2 t3 t4 t5)[k]? = some (.str (mkS (sgn k)) t) := by
  have e7 : Str.ofString "/" = mkS [47] := by decide +kernel
  match k, hk with
  | 0, _ => exact ⟨t0, by show _ = some (Value.str (mkS [34]) t0); rw [← e6]; rfl⟩
  | 1, _ => exact ⟨t1, by show _ = some (Value.str (mkS [39]) t1); rw [← Mine.e7]; rfl⟩
  | 2, _ => exact ⟨t2, by show _ = some (Value.str (mkS [32]) t2); rw [← e5]; rfl⟩
  | 3, _ => exact ⟨t3, by show _ = some (Value.str (mkS [97]) t3); rw [← e8]; rfl⟩
  | 4, _ => exact ⟨t4, by show _ = some (Value.str (mkS [47]) t4); rw [← e7]; rfl⟩
  | 5, _ => exact ⟨t5, by show _ = some (Value.str (mkS []) t5); rw [← e0]; rfl⟩
theorem signs_item {news : List (Addr × Obj)} {l : Addr} {osg : Obj} {k : Int} {u : Tok} {value slice : PySem.Expr} {A : Around} {Q : Value → Shared → Prop} {E : Value → Shared → Prop} (N : News h₀ L s.heap news) (hm : (l, osg) ∈ news) (hS : Signs osg) (h0 : 0 ≤ k) (h6 : k < 6)
    (h : ∀ t, Q (.str (mkS (sgn k.toNat)) t) s) (hs : subscripted slice false (.ref l) (.int k u) = operate [.ref l, .int k u] (getItem (.ref l) (.int k u)) := by with_unfolding_all rfl) :
    wpAny (model PySem.Challenge.rw_nq0264_01.prog w) A (subscriptTail value slice (.ref l) (.int k u)) Q E s := by
  obtain ⟨t0, t1, t2, t3, t4, t5, rfl⟩ := hS
  obtain ⟨t, ht⟩ := sg_at t0 t1 t2 t3 t4 t5 k.toNat (by omega)
  have hl : s.heap.IsList l (sgL t0 t1 t2 t3 t4 t5) := ⟨_, (N _ hm).1, rfl, _, rfl⟩
  exact tail_any hl.typeIs slot_list_getitem.lookup (wpAny_getItem_list hl h0 (by omega) ht (h t)) hs
theorem join3 (a b c : List Nat) : Txt.join (Str.ofString "") [mkS a, mkS b, mkS c] = mkS (a ++ b ++ c) := by
  rw [e0]
  simp [Txt.join, Builtin.Str.glued]
theorem join3_ {news : List (Addr × Obj)} {D : Addr} {x y z : List Nat} {tx ty tz t : Tok} {A : Around} {Q : Value → Shared → Prop} {E : Value → Shared → Prop} (N : News h₀ L s.heap news) (hm : (D, LCg.lst [.str (mkS x) tx, .str (mkS y) ty, .str (mkS z) tz]) ∈ news)
    (hl : x.length + y.length + z.length ≤ 1000) (h : ∀ t' k, Q (.str (mkS (x ++ y ++ z)) t') { s with toks := k }) :
    wpAny (model PySem.Challenge.rw_nq0264_01.prog w) A (call (.builtin "str.join") [.str (Str.ofString "") t, .ref D]) Q E s := by
  have hl' : s.heap.IsList D (strValues [(mkS x, tx), (mkS y, ty), (mkS z, tz)]).toArray := ⟨_, (N _ hm).1, rfl, _, rfl⟩
  refine SC.join (texts := [mkS x, mkS y, mkS z]) hl' rfl (joinOk_of_weight ?_ ?_) (fun t' k => ?_)
  · simp only [List.map_cons, List.map_nil, List.sum_cons, List.sum_nil, List.length_cons, List.length_nil]
    show x.length + (y.length + (z.length + 0)) + _ ≤ _
    omega
  · rw [e0]; exact Nat.zero_le _
  · rw [join3]; exact h t' k
theorem sgn_len (n : Nat) : (sgn n).length ≤ 1 := by unfold sgn; split <;> simp
theorem sgn_len3 (a b c : Nat) : (sgn a).length + (sgn b).length + (sgn c).length ≤ 1000 := by
  have := sgn_len a; have := sgn_len b; have := sgn_len c; omega
theorem fld_eq (x : Int) : sgn (((x.fdiv 256).fdiv (6 ^ (0 + ((0 : Nat) : Int)).toNat)).fmod 6).toNat ++ sgn (((x.fdiv 256).fdiv (6 ^ (0 + ((0 + 1 : Nat) : Int)).toNat)).fmod 6).toNat ++ sgn (((x.fdiv 256).fdiv (6 ^ (0 + ((0 + 1 + 1 : Nat) : Int)).toNat)).fmod 6).toNat = fld x := by
  have e0 : (6 : Int) ^ (0 + ((0 : Nat) : Int)).toNat = 1 := by decide
  have e1 : (6 : Int) ^ (0 + ((0 + 1 : Nat) : Int)).toNat = 6 := by decide
  have e2 : (6 : Int) ^ (0 + ((0 + 1 + 1 : Nat) : Int)).toNat = 36 := by decide
  rw [e0, e1, e2]
  unfold fld
  simp only [Int.fdiv_eq_ediv_of_nonneg _ (show (0 : Int) ≤ 256 by decide), Int.fdiv_eq_ediv_of_nonneg _ (show (0 : Int) ≤ 1 by decide), Int.fdiv_eq_ediv_of_nonneg _ (show (0 : Int) ≤ 6 by decide), Int.fdiv_eq_ediv_of_nonneg _ (show (0 : Int) ≤ 36 by decide), Int.fmod_eq_emod_of_nonneg _ (show (0 : Int) ≤ 6 by decide), Int.ediv_one]
theorem EltEnd.one {h₀ : Heap} {L D : Addr} {o : Obj} {m : Str → Option Value} {s₁ : Shared} {own news rest : List (Addr × Obj)} {K : Value → List (Addr × Obj) → Prop} {y : Value} {h' : Heap} {tk : Nat} (F : Fr h₀ L h' m) (N : News h₀ L h' ((D, o) :: rest)) (sub : ∀ p ∈ own ++ news, p ∈ rest) (sep : ∀ q ∈ own, q.1 < D) (k : K y [(D, o)]) :
    EltEnd h₀ L m s₁ own news K y { s₁ with heap := h', toks := tk } := by
  refine ⟨h', tk, [(D, o)], rfl, F, fun p hp => N p ?_, fun p hp q hq => ?_, k⟩
  · rcases List.mem_append.mp hp with hp | hp
    · exact .tail _ (sub p (List.mem_append.mpr (.inl hp)))
    · rcases List.mem_append.mp hp with hp | hp
      · rw [List.mem_singleton.mp hp]; exact .head _
      · exact .tail _ (sub p (List.mem_append.mpr (.inr hp)))
  · rw [List.mem_singleton.mp hp]; exact Ne.symm (Nat.ne_of_lt (sep q hq))
theorem FldJ.step {xs : List Int} {news nw : List (Addr × Obj)} {i : Nat} {ys : List Value} {D : Addr} {o : Obj} {x : Int} {t u : Tok} {n : Nat} (h : FldJ xs news i ys nw) (hx : xs[i]? = some x) (ho : o = { cls := .type "tuple", data := .seq #[.int (x.fmod 64) t, .str (mkS (fld x)) u] n }) (hlt : ∀ q ∈ news, q.1 < D) :
    FldJ xs news (i + 1) (ys ++ [.ref D]) ([(D, o)] ++ nw) := by
  refine ⟨?_, fun p hp => ?_⟩
  · have e : xs.take (i + 1) = xs.take i ++ [x] := by rw [List.take_add_one, hx]; rfl
    rw [e, List.map_append]
    refine DatAll.append (h.1.mono fun p hp => List.mem_append.mpr (.inr hp)) (.one ?_)
    subst ho
    have e2 : x.fmod 64 = x % 64 := Int.fmod_eq_emod_of_nonneg _ (by decide)
    rw [e2]
    exact DatIn.tuple (vs := [.int (x % 64) t, .str (mkS (fld x)) u]) (.head _) (.cons (.int _ _) (.cons (.str _ _) .nil))
  · rcases List.mem_append.mp hp with hp | hp
    · rw [List.mem_singleton.mp hp]; exact hlt
    · exact h.2 p hp
end
end

section
noncomputable def mrk (x : Int) : Nat := [124, 33, 58, 47].getD (x / 64 % 4).toNat 0
noncomputable def r257 (x : Int) : List Nat := [50, 53, 55, 32, 34] ++ rp 34 [34, 34] (fld x) ++ [34] ++ rep (x % 2).toNat [32, 34, 98, 34]
noncomputable def r229 (x : Int) : List Nat := [50, 50, 57, 32] ++ rep (x % 3).toNat [97] ++ [40] ++ rep 3 [mrk x] ++ dig (x % 64) ++ [mrk x] ++ [41] ++ rep (x % 2).toNat [98, 41]
noncomputable def repsT : List Int → List (List Nat)
  | [] => []
  | x :: r => r257 x :: r229 x :: repsT r
theorem repsT_snoc (l : List Int) (x : Int) : repsT (l ++ [x]) = repsT l ++ [r257 x, r229 x] := by
  induction l with
  | nil => rfl
  | cons y r ih => simp only [List.cons_append, repsT, ih]
theorem repsT_len (l : List Int) : (repsT l).length = 2 * l.length := by
  induction l with
  | nil => rfl
  | cons y r ih => simp only [repsT, List.length_cons, ih]; rfl
noncomputable def strD (l : List Nat) : Dat := .str (mkS l)
theorem fm2 (x : Int) : x.fmod 2 = x % 2 := Int.fmod_eq_emod_of_nonneg _ (by decide)
theorem fm3 (x : Int) : x.fmod 3 = x % 3 := Int.fmod_eq_emod_of_nonneg _ (by decide)
theorem fm64 (x : Int) : (x.fdiv 64).fmod 4 = x / 64 % 4 := by rw [Int.fmod_eq_emod_of_nonneg _ (by decide), Int.fdiv_eq_ediv_of_nonneg _ (by decide)]
theorem fld_len (x : Int) : (fld x).length ≤ 3 := by
  unfold fld
  have h1 := sgn_len (x / 256 % 6).toNat
  have h2 := sgn_len (x / 256 / 6 % 6).toNat
  have h3 := sgn_len (x / 256 / 36 % 6).toNat
  simp only [List.length_append]
  omega
theorem dig64 : ∀ i : Fin 64, (dig ((i.1 : Nat) : Int)).length ≤ 2 := by decide +kernel
theorem fin_of (n : Nat) (x : Int) (h0 : 0 ≤ x) (h1 : x < n) : ∃ i : Fin n, x = ((i.1 : Nat) : Int) := ⟨⟨x.toNat, by omega⟩, by simp only; omega⟩
theorem dig_len (x : Int) : (dig (x % 64)).length ≤ 2 := by
  obtain ⟨i, e⟩ := fin_of 64 (x % 64) (em0 x (by decide)) (em1 x (by decide))
  rw [e]; exact dig64 i
theorem lA : Str.ofString "257 \"" = mkS [50, 53, 55, 32, 34] := by decide +kernel
theorem lB : Str.ofString "229 " = mkS [50, 50, 57, 32] := by decide +kernel
theorem lC : Str.ofString "(" = mkS [40] := by decide +kernel
theorem lD : Str.ofString ")" = mkS [41] := by decide +kernel
theorem lE : Str.ofString " \"b\"" = mkS [32, 34, 98, 34] := by decide +kernel
theorem lF : Str.ofString "b)" = mkS [98, 41] := by decide +kernel
theorem lG : Str.ofString "|!:/" = mkS [124, 33, 58, 47] := by decide +kernel
theorem lH : Str.ofString "\"\"" = mkS [34, 34] := by decide +kernel
section
variable {w : World} {pg : Program} {lz : List Str} {mean : ExcName → Option Value} {mg mb : Str → Option Value} {dp un : Nat} {gd : Option (List Code)} {cn : Str} {cs : Scope} {a : Addr} {ccd : Value} {cl : List (Str × Addr)} {outer : List Env} {A₀ : Around} {base h₀ : Heap} {L : Addr} {m : Str → Option Value} {s : Shared} {Q E : Value → Shared → Prop}

theorem replace34 {w : World} {A : Around} {E : Value → Shared → Prop} {s : Shared} {Q : Value → Shared → Prop} {l z : List Nat} {y z' : Str} {t u v : Tok} (hy : y = mkS [34]) (hz : z' = mkS z) (hu : u ≠ 0) (hv : v ≠ 0) (huv : u ≠ v) (hne : (y == z') = false) (hl : l.length ≤ 1000000) (hzl : z.length ≤ 14) (hq : ∀ t' k, Q (.str (mkS (rp 34 z l)) t') { s with toks := k }) :
   wpAny (model PySem.Challenge.rw_nq0264_01.prog w) A (call (.builtin "str.replace") [.str (mkS l) t, .str y u, .str z' v]) Q E s := by
  subst hy hz
  refine SC.replaceW hu hv huv hne (Nat.le_trans hl (by decide)) hzl fun t' k => ?_
  rw [replS]
  exact hq t' k
theorem markS {s : Shared} {Q : Value → Shared → Prop} {A : Around} {E : Value → Shared → Prop} {x : Int} {t u : Tok} {value slice : PySem.Expr} (h : ∀ t' k, Q (.str (mkS [mrk x]) t') { s with toks := k })
    (hs : subscripted slice false (.str (Str.ofString "|!:/") t) (.int ((x.fdiv 64).fmod 4) u) = operate [.str (Str.ofString "|!:/") t, .int ((x.fdiv 64).fmod 4) u] (getItem (.str (Str.ofString "|!:/") t) (.int ((x.fdiv 64).fmod 4) u)) := by with_unfolding_all rfl)
    (ht : ∀ r, letTemporaryGo value (.str (Str.ofString "|!:/") t) r = pure () := by intro _; with_unfolding_all rfl) :
    Bx (wpAny (model PySem.Challenge.rw_nq0264_01.prog w) A (subscriptTail value slice (.str (Str.ofString "|!:/") t) (.int ((x.fdiv 64).fmod 4) u)) Q E s) := by
  refine Bx.mk ?_
  have e := fm64 x
  refine (itemS lG (by rw [e]; exact em0 _ (by decide)) (by rw [e]; exact em1 _ (by decide)) (by decide) (fun t' k => ?_) hs ht).out
  rw [e]; exact h t' k
theorem items_ind {prog : Program} {w : World} {A : Around} {E : Value → Shared → Prop} {h₀ : Heap} {env : Env} {target : Expr} {body : List Stmt} {Q : Flow → Shared → Prop} {s : Shared} {ws : List (Addr × String)} {keep : List (Addr × Obj)} {α : Type}
   (J : α → List Itm → (Str → Option Value) → List (Addr × Obj) → Prop)
   (nil : ∀ a m led, J a [] m led → ∀ h tk, Fr h₀ env.locals h m → News h₀ env.locals h led → Q .next { s with heap := h, toks := tk })
   (cons : ∀ a i r m led, J a (i :: r) m led → ∀ v h tk, i.Is v h → Fr h₀ env.locals h m → AllObj ws (fun its => News h₀ env.locals h (its ++ led) →
      wpAny (model prog w) A (assign target env v) (fun _ s₂ => wpAny (model prog w) A (execs body env) (UnrPostW h₀ env.locals { s with heap := h, toks := tk } its (fun m' n' => SubL keep n' ∧ ∃ a', J a' r m' n') Q) E s₂) E { s with heap := h, toks := tk })) :
   ∀ items a m led, J a items m led → ItemsRest prog w A E h₀ env target body Q s ws keep items m led := by
  intro items
  induction items with
  | nil => exact fun a m led h => nil a m led h
  | cons i r ih =>
    intro a m led h v h' tk hi F
    have z := cons a i r m led h v h' tk hi F
    have up : ∀ (ws : List (Addr × String)) (k k' : List (Addr × Obj) → Prop), (∀ its, k its → k' its) → AllObj ws k → AllObj ws k' := by
      intro ws
      induction ws with
      | nil => exact fun k k' hk h => hk _ h
      | cons x r ih => exact fun k k' hk h o ho => ih _ _ (fun its => hk _) (h o ho)
    refine up _ _ _ (fun its hz N => ?_) z
    refine wpAny_mono (hz N) (fun _ s₂ h2 => wpAny_mono h2 (fun f s₃ h3 => ?_) (fun _ _ e => e)) (fun _ _ e => e)
    cases f with
    | ret v => exact h3
    | brk => exact h3
    | next =>
      obtain ⟨a1, a2, a3, a4, e1, e2, e3, e4, e5, a', e6⟩ := h3
      exact ⟨a1, a2, a3, a4, e1, e2, e3, e4, e5, ih _ _ _ e6⟩
    | cont =>
      obtain ⟨a1, a2, a3, a4, e1, e2, e3, e4, e5, a', e6⟩ := h3
      exact ⟨a1, a2, a3, a4, e1, e2, e3, e4, e5, ih _ _ _ e6⟩

inductive RepJ (reps : Nat) (bs : List (Addr × Obj)) (all : List Int) (n9 : Nat) (items : List Itm) (m : Str → Option Value) (led : List (Addr × Obj)) : Prop
  | mk (nv vs : List Value) (done xs : List Int) (acc : List Value) (c : Nat) (c0 : items = zipItems nv vs) (c1 : all = done ++ xs) (c2 : IntsAre nv xs) (c3 : DatAll bs vs (xs.map fldD)) (c4 : led = (reps, listOf acc.toArray c) :: bs) (c5 : m (Str.ofString "replies") = some (.ref reps)) (c6 : DatAll [] acc ((repsT done).map strD)) : RepJ reps bs all n9 items m led
theorem fr_map1 {h₀ h : Heap} {L : Addr} {m : Str → Option Value} {x : Str} {a : Value} (F : Fr h₀ L h m) (hx : m x = some a) :
    Fr h₀ L h (fun u => if u = x then some a else m u) := by
  have : (fun u => if u = x then some a else m u) = m := by
    funext u
    split
    · rename_i e; rw [e, hx]
    · rfl
  rw [this]; exact F
theorem fldD_inv {bs : List (Addr × Obj)} {v : Value} {x : Int} (h : DatIn bs v (fldD x)) : ∃ ta t u n, v = .ref ta ∧ (ta, ({ cls := .type "tuple", data := .seq #[.int (x % 64) t, .str (mkS (fld x)) u] n } : Obj)) ∈ bs := by
  unfold fldD at h
  cases h with
  | tuple hm r =>
    cases r with
    | cons h1 r =>
      cases h1
      cases r with
      | cons h2 r =>
        cases h2
        cases r
        exact ⟨_, _, _, _, rfl, hm⟩
theorem rep_end {h₀ h' : Heap} {L : Addr} {s₁ : Shared} {tk reps : Nat} {m' : Str → Option Value} {p0 : Addr × Obj} {acc : List Value} {c : Nat} {its bs keep : List (Addr × Obj)} {R : (Str → Option Value) → List (Addr × Obj) → Prop}
    (F : Fr h₀ L h' m') (N : News h₀ L h' (p0 :: (reps, listOf acc.toArray c) :: (its ++ bs))) (sep : ∀ p ∈ (reps, listOf acc.toArray c) :: bs, ∀ q ∈ its, p.1 ≠ q.1) (hk : SubL keep ((reps, listOf acc.toArray c) :: bs)) (hR : R m' ((reps, listOf acc.toArray c) :: bs)) :
    UnrEndW h₀ L s₁ its (fun m' n' => SubL keep n' ∧ R m' n') { s₁ with heap := h', toks := tk } := by
  refine ⟨h', tk, m', _, rfl, F, news_sub N fun p hp => ?_, sep, hk, hR⟩
  rcases List.mem_append.mp hp with hp | hp
  · exact .tail _ (.tail _ (List.mem_append.mpr (.inl hp)))
  · rcases List.mem_cons.mp hp with rfl | hp
    · exact .tail _ (.head _)
    · exact .tail _ (.tail _ (List.mem_append.mpr (.inr hp)))
theorem acc_snoc {done : List Int} {x : Int} {acc : List Value} {t u : Tok} (h : DatAll [] acc ((repsT done).map strD)) : DatAll [] (acc ++ [.str (mkS (r257 x)) t] ++ [.str (mkS (r229 x)) u]) ((repsT (done ++ [x])).map strD) := by
  rw [repsT_snoc, List.map_append, List.append_assoc]
  exact DatAll.append h (.cons (.str _ _) (.cons (.str _ _) .nil))
end
end

section
noncomputable abbrev boundS : Obj := { cls := .type "builtin_function_or_method", data := .fields #[.builtin "re.Pattern.search", .ref 128] }
noncomputable abbrev patO : Obj := { cls := .type "re.Pattern", data := .fields #[.str (Str.ofString "[^\\w@%+=:,./-]") 454, .int 256 491, .int 0 0, .none, .none, .ref 127, .int 0 0] }
noncomputable abbrev cdV : Array Value := #[.int 14 0, .int 17 0, .int 4 0, .int 1 0, .int 1 0, .int 21 0, .int 9 0, .int 0 0, .int 604043296 0, .int 1 0, .int 0 0, .int 0 0, .int 0 0, .int 0 0, .int 0 0, .int 8 0, .int 4 0, .int 0 0, .int 13 0, .int 14 0, .int 21 0, .int 9 0, .int 0 0, .int 604043296 0, .int 1 0, .int 0 0, .int 0 0, .int 0 0, .int 0 0, .int 0 0, .int 8 0, .int 4 0, .int 0 0, .int 1 0]
noncomputable abbrev cdO : Obj := { cls := .type "tuple", data := .seq cdV }
noncomputable abbrev cdN : Array Nat := #[14, 17, 4, 1, 1, 21, 9, 0, 604043296, 1, 0, 0, 0, 0, 0, 8, 4, 0, 13, 14, 21, 9, 0, 604043296, 1, 0, 0, 0, 0, 0, 8, 4, 0, 1]
theorem m257 (r : List Nat) : ((Sre.forSearch cdN ⟨50 :: 53 :: 55 :: 32 :: r⟩ 0 0 (r.length + 4) false).runFor 4).outcome = some .matched := by kernel_rfl
theorem m229 (r : List Nat) : ((Sre.forSearch cdN ⟨50 :: 50 :: 57 :: 32 :: r⟩ 0 0 (r.length + 4) false).runFor 4).outcome = some .matched := by kernel_rfl
section
variable {prog : Program} {w : World} {A : Around} {E : Value → Shared → Prop} {s : Shared}
theorem ifN {α : Type} {M : Model} {c : Bool} {x y : Sem α} {Q : α → Shared → Prop} (hc : c = false) (h : wpAny M A y Q E s) : wpAny M A (if c = true then x else y) Q E s := by
  rw [hc, if_neg (by decide)]; exact h
theorem forIn_quiet {M : Model} {α : Type} (f : α → PUnit → Sem (ForInStep PUnit)) (hf : ∀ x (P : ForInStep PUnit → Shared → Prop), P (.yield ⟨⟩) s → wpAny M A (f x ⟨⟩) P E s) :
    ∀ (l : List α) {Q : PUnit → Shared → Prop}, Q ⟨⟩ s → wpAny M A (forIn l ⟨⟩ f) Q E s
  | [], Q, h => by rw [List.forIn_nil]; exact wpAny_pure h
  | x :: l, Q, h => by
    rw [List.forIn_cons]
    exact wpAny_bind (hf x _ (forIn_quiet f hf l h))
theorem end_run {M : Model} {m : Sre.M} {Q : Option Sre.M → Shared → Prop} (hm : (m.runFor 4).outcome = some .matched) (h : Q (some (m.runFor 4)) s) : wpAny M A (Builtin.Re.reRunToEnd m) Q E s := by
  unfold Builtin.Re.reRunToEnd
  have e : Builtin.Re.reDrive (2 ^ 64) m = pure (m.runFor 4) := by
    rw [show (2 ^ 64 : Nat) = (2 ^ 64 - 1) + 1 from by decide]
    unfold Builtin.Re.reDrive
    show (if (m.runFor 4).outcome.isSome = true then pure (m.runFor 4) else _) = _
    rw [hm]; rfl
  rw [e]
  refine wpAny_bind (wpAny_pure (wpAny_bind (forIn_quiet _ (fun x P hP => ?_) _ ?_)))
  · split
    · exact wpAny_bind (wpAny_rule (wpAny_pure hP))
    · exact wpAny_pure hP
  · rw [hm]
    exact wpAny_pure h
theorem search_tree {b c : Nat} {r : List Nat} {t : Tok} {P : PySem.Fin → Shared → Prop} (hm : ((Sre.forSearch cdN ⟨50 :: b :: c :: 32 :: r⟩ 0 0 (r.length + 4) false).runFor 4).outcome = some .matched) (hr : r.length ≤ 1000)
    (h1 : s.heap.get? 128 = some patO) (h2 : s.heap.get? 127 = some cdO)
    (h : ∀ x h' tk, (∀ q o, s.heap.get? q = some o → h'.get? q = some o) → P (.done (.ret (.ref x))) { s with heap := h', toks := tk }) :
    wpAny (model prog w) A (Builtin.«re.Pattern.search» ⟨[.ref 128, .str (mkS (50 :: b :: c :: 32 :: r)) t], []⟩) P E s := by
  unfold Builtin.«re.Pattern.search» Builtin.Re.reTarget
  refine wpAny_bind ?_
  refine wpAny_bind (wpAny_of_eq (a := [some (.str (mkS (50 :: b :: c :: 32 :: r)) t), none, none]) (by first | rfl | kernel_rfl) ?_)
  dsimp only
  refine wpAny_bind (wpAny_pure ?_)
  refine wpAny_bind (wpAny_pure ?_)
  refine wpAny_bind (wpAny_fieldsOf h1 rfl ?_)
  refine wpAny_bind (wpAny_of_eq (a := ((⟨50 :: b :: c :: 32 :: r⟩ : Array Nat), 0)) rfl ?_)
  refine ifN rfl ?_
  refine ifN rfl ?_
  refine wpAny_bind (wpAny_of_eq (a := ()) rfl ?_)
  refine wpAny_bind ?_
  unfold Builtin.Re.reRawItems
  refine wpAny_bind (wpAny_seqItems h2 rfl (wpAny_pure (wpAny_pure ?_)))
  have e1 : min ((2 ^ 63 - 1 : Int).toNat) (⟨50 :: b :: c :: 32 :: r⟩ : Array Nat).size = r.length + 4 := by
    have q1 : (2 ^ 63 - 1 : Int).toNat = 9223372036854775807 := by decide
    have q2 : (⟨50 :: b :: c :: 32 :: r⟩ : Array Nat).size = r.length + 4 := rfl
    rw [q1, q2]; omega
  have e2 : min (Int.toNat 0) (⟨50 :: b :: c :: 32 :: r⟩ : Array Nat).size = 0 := by
    rw [show Int.toNat 0 = 0 from rfl]; omega
  have e3 : Array.map (fun x : Int => x.toNat) (Array.map Builtin.Re.reRawOf ((some cdV).getD #[])) = cdN := by decide +kernel
  dsimp only
  rw [e1, e2, e3]
  unfold Builtin.Re.reAnswer
  refine wpAny_bind (end_run (s := s) hm ?_)
  unfold Builtin.Re.reNewMatch
  dsimp only
  refine wpAny_bind ?_
  refine ifN (by rfl) ?_
  refine wpAny_bind (wpAny_newTuple ?_ (by simp [Builtin.Re.reRawNat, sizeLine_eq]))
  refine wpAny_newObj_type ?_ (by first | exact True.intro | exact Nat.le_of_ble_eq_true rfl | size_fits)
  refine wpAny_pure ?_
  exact h _ _ s.toks fun q o e => Heap.get?_push_of_some _ (Heap.get?_push_of_some _ e)
theorem kind_re : builtinKind "re.Pattern.search" = some .method := by first | decide +kernel | kernel_rfl
theorem args_re {x : Str} {t : Tok} : (match Manifest.signature? "re.Pattern.search" with | some sig => Bind.checkArgs "re.Pattern.search" { sig with full := s!"{Bind.lastOf "re.Pattern"}.{Bind.lastOf "re.Pattern.search"}" } ⟨[.ref 128, .str x t], []⟩ | none => pure ()) = pure () := by kernel_rfl
theorem check_re {x : Str} {t : Tok} {Q : Unit → Shared → Prop} (h1 : s.heap.get? 128 = some patO) (h : Q () s) : wpAny (model prog w) A (checkBoundCall "re.Pattern.search" ⟨[.ref 128, .str x t], []⟩) Q E s := by
  have hT : s.TypeIs (.ref 128) "re.Pattern" := ⟨_, h1, rfl⟩
  have ha := args_re (x := x) (t := t)
  unfold checkBoundCall
  cases hs : Manifest.signature? "re.Pattern.search" with
  | none => exact wpAny_pure h
  | some sig =>
    rw [hs] at ha
    rw [kind_re]
    dsimp only at ha ⊢
    refine ifN (by rfl) ?_
    refine wpAny_bind (wpAny_isInstance hT (b := false) (by rw [isSubtype_type]; kernel_rfl) ?_)
    refine ifN (by decide +kernel) ?_
    refine wpAny_bind ?_
    simp only [isType, loadHead]
    refine wpAny_bind (wpAny_loadPart h1 (wpAny_pure ?_))
    refine ifN (by rfl) ?_
    refine wpAny_bind (wpAny_typeOf hT ?_)
    exact wpAny_of_eq ha h
theorem entry_re : entryFor table "re.Pattern.search" = some Builtin.«re.Pattern.search» := entryFor_of_tree (by kernel_rfl)
theorem quiet_re {as : Args} : (Code.builtin "re.Pattern.search" as).quiet = true := Code.quiet_builtin _ (by decide +kernel)
theorem call_re {b c : Nat} {r : List Nat} {t : Tok} {Q : Value → Shared → Prop} (hm : ((Sre.forSearch cdN ⟨50 :: b :: c :: 32 :: r⟩ 0 0 (r.length + 4) false).runFor 4).outcome = some .matched) (hr : r.length ≤ 1000)
    (h0 : s.heap.get? 831 = some boundS) (h1 : s.heap.get? 128 = some patO) (h2 : s.heap.get? 127 = some cdO)
    (h : ∀ x h' tk, (∀ q o, s.heap.get? q = some o → h'.get? q = some o) → Q (.ref x) { s with heap := h', toks := tk }) :
    wpAny (model prog w) A (call (.ref 831) [.str (mkS (50 :: b :: c :: 32 :: r)) t]) Q E s := by
  refine wpAny_call (codeAny_of_tree ?_)
  show wpAny _ A.in1 (callAny (.ref 831) ⟨[.str (mkS (50 :: b :: c :: 32 :: r)) t], []⟩) _ _ s
  simp only [callAny]
  refine wpAny_bind (wpAny_load h0 ?_)
  simp only [boundS, show (Value.type "builtin_function_or_method" == Value.type "method" || Value.type "builtin_function_or_method" == Value.type "builtin_function_or_method" || Value.type "builtin_function_or_method" == Value.type "method-wrapper") = true by decide, if_true]
  refine wpAny_bind (check_re h1 ?_)
  refine wpAny_bind (wpAny_pure (wpAny_pure ?_))
  exact ⟨quiet_re, codeAny_builtin entry_re (search_tree hm hr h1 h2 fun x h' tk k => h x h' tk k)⟩
theorem callWith_re {pos : Pos} {env : Env} {e : Expr} {Q : Value → Shared → Prop}
    (h : wpAny (model prog w) A (eval e env) (fun v s₁ => s₁.heap.get? 831 = some boundS ∧ wpAny (model prog w) A (call (.ref 831) [v]) Q E s₁) E s)
    (he : starEach [e] env = [(false, eval e env)] := by rfl) :
    wpAny (model prog w) A (callWith pos (.ref 831) [] (backTo pos (starEach [e] env)) []) Q E s := by
  rw [he]
  unfold callWith
  refine wpAny_bind (wpAny_holding (wpAny_mono (Q := fun x s₁ => s₁.heap.get? 831 = some boundS ∧ wpAny (model prog w) A (call (.ref 831) ([] ++ x.pos) x.kw) Q E s₁) (evalArgs_plain (spliced_cons (wpAny_mono h (fun v s₁ hv => spliced_nil hv) fun _ _ x => x))) (fun x s₁ h₁ => wpAny_bind (wpAny_standAt ?_)) fun _ _ x => x))
  obtain ⟨ho, hcall⟩ := h₁
  refine wpAny_bind (m := keeperOf (.ref 831)) ?_
  unfold keeperOf
  refine wpAny_bind (wpAny_load ho ?_)
  simp only [boundS, show (Value.type "builtin_function_or_method" != Value.type "method") = true by decide, show (Value.type "builtin_function_or_method" == Value.type "builtin_function_or_method" || Value.type "builtin_function_or_method" == Value.type "method-wrapper") = true by decide, if_true]
  refine wpAny_pure ?_
  exact wpAny_bind (wpAny_mono hcall (fun r s₂ hr => wpAny_bind (wpAny_holding (wpAny_point (wpAny_pure hr)))) fun _ _ x => x)
end
end

section
noncomputable def quoT (l : List Nat) : List Nat := [39] ++ rp 39 [39, 34, 39, 34, 39] l ++ [39]
section
variable {w : World} {pg : Program} {lz : List Str} {mean : ExcName → Option Value} {mg mb : Str → Option Value} {dp un : Nat} {gd : Option (List Code)} {cn : Str} {cs : Scope} {a : Addr} {ccd : Value} {cl : List (Str × Addr)} {outer : List Env} {A₀ : Around} {base h₀ : Heap} {L : Addr} {m : Str → Option Value} {s : Shared} {Q E : Value → Shared → Prop}

theorem truthyS {A : Around} {E : Value → Shared → Prop} {s : Shared} {k : Nat} {p : List Nat} {t : Tok} {Q : Bool → Shared → Prop} (hl : p.length ≤ 100000) (h : ∀ tk, Q true { s with toks := tk }) : wpAny (model PySem.Challenge.rw_nq0264_01.prog w) A (truthy (.str (mkS (k :: p)) t)) Q E s := by
  have e : ((mkS (k :: p)).length : Int) = (p.length : Int) + 1 := by show (((k :: p).length : Nat) : Int) = _; simp
  refine P.truthy_str (by rw [e]; omega) ?_
  have e2 : (((mkS (k :: p)).length : Int) != 0) = true := by
    rw [e]; simp; omega
  rw [e2]; exact h _
theorem at831 {h : Heap} (F : Fr h₀ L h m) (X : (KY w.params).In h₀) : h.get? 831 = some boundS := (X.keeps F.keep) _ _ (by k_is)
theorem at128 {h : Heap} (F : Fr h₀ L h m) (X : (KY w.params).In h₀) : h.get? 128 = some patO := (X.keeps F.keep) _ _ (by k_is)
theorem at127 {h : Heap} (F : Fr h₀ L h m) (X : (KY w.params).In h₀) : h.get? 127 = some cdO := (X.keeps F.keep) _ _ (by k_is)
theorem search_ {news : List (Addr × Obj)} {A : Around} {b c : Nat} {r : List Nat} {t : Tok} {Q : Value → Shared → Prop} {E : Value → Shared → Prop} (F : Fr h₀ L s.heap m) (X : (KY w.params).In h₀) (N : News h₀ L s.heap news) (hm : ((Sre.forSearch cdN ⟨50 :: b :: c :: 32 :: r⟩ 0 0 (r.length + 4) false).runFor 4).outcome = some .matched) (hr : r.length ≤ 1000)
    (h : ∀ x h' tk, Fr h₀ L h' m → News h₀ L h' news → Q (.ref x) { s with heap := h', toks := tk }) :
    wpAny (model PySem.Challenge.rw_nq0264_01.prog w) A (call (.ref 831) [.str (mkS (50 :: b :: c :: 32 :: r)) t]) Q E s :=
  call_re hm hr (at831 F X) (at128 F X) (at127 F X) fun x h' tk k => h x h' tk (fr_keeps F k) (news_keeps N k)
theorem replaceQ {A : Around} {E : Value → Shared → Prop} {Q : Value → Shared → Prop} {l z : List Nat} {y z' : Str} {t u v : Tok} (hy : y = mkS [39]) (hz : z' = mkS z) (hu : u ≠ 0) (hv : v ≠ 0) (huv : u ≠ v) (hne : (y == z') = false) (hl : l.length ≤ 1000000) (hzl : z.length ≤ 14) (hq : ∀ t' k, Q (.str (mkS (rp 39 z l)) t') { s with toks := k }) :
   wpAny (model PySem.Challenge.rw_nq0264_01.prog w) A (call (.builtin "str.replace") [.str (mkS l) t, .str y u, .str z' v]) Q E s := by
  subst hy hz
  refine SC.replaceW hu hv huv hne (Nat.le_trans hl (by decide)) hzl fun t' k => ?_
  rw [replS]
  exact hq t' k
theorem lQ : Str.ofString "'\"'\"'" = mkS [39, 34, 39, 34, 39] := by decide +kernel
end
end

section
section
variable {prog : Program} {w : World} {A : Around}
noncomputable abbrev gx (elt iter : Expr) (x : Str) (px : Pos) (scope : Scope) (pos : Pos) : Expr := .GeneratorExp elt [⟨.Name x px, iter, [], 0⟩] scope pos
noncomputable abbrev pzT : Nat → Bool := fun _ => true
theorem seg_loopQ {elt iter : Expr} {x : Str} {px : Pos} {scope : Scope} {pos : Pos} {I : Addr} {fp wr : List Addr} {n₀ : Nat} {P : Nat → Value → Prop} {St₀ : Nat → Heap → Prop} {cenv : Env}
    (hh : A.handled = none) (W₀ : ∀ A' : Around, A'.handled = none → Walks prog w A' I fp wr n₀ P St₀) (F : Nat → Value → Prop) (href : Heap)
    (hx : cenv.kindOf x = some .local) (hp : (cenv.scope.kind == .class || (cenv.scope.kind == .module && cenv.locals != cenv.globals)) = false)
    (hco : cenv.scope.isCoroutine = false) (hCf : cenv.locals ∉ fp)
    (hq : ∀ E' i v (s₂ : Shared) m₂, P i v → s₂.heap.Ns cenv.locals m₂ → m₂ x = some v → (∀ b ∈ fp, b ∉ wr → ∀ o, href.get? b = some o → s₂.heap.get? b = some o) →
      wpAny (model prog w) (A.over (.compLoop (gx elt iter x px scope pos) 0 (.ref I) .none cenv) []) (eval elt cenv) (fun y s₃ => F i y ∧ PySem.Keeps s₂ s₃) E' s₂) :
    ∀ (k i : Nat) (s₀ s : Shared) (m : Str → Option Value), n₀ - i = k → i ≤ n₀ → St₀ i s.heap → s.heap.Ns cenv.locals m → GenSince cenv.locals wr s₀ s →
      (∀ b ∈ fp, b ∉ wr → ∀ o, href.get? b = some o → s.heap.get? b = some o) →
      Seg (model prog w) A (fun n s₀ r s₁ => r = .ok .next ∧ (n = 0 ∧ GenSince cenv.locals wr s₀ s₁)) (genProto cenv.locals fp wr pzT n₀ F) (passing pzT n₀ i).length s₀
        (.compLoop (gx elt iter x px scope pos) 0 (.ref I) .none cenv) ((model prog w).den (.compLoop (gx elt iter x px scope pos) 0 (.ref I) .none cenv)) [] s := by
  have hh' : (A.over (.compLoop (gx elt iter x px scope pos) 0 (.ref I) .none cenv) []).handled = none := hh
  have hCw : cenv.locals ∉ wr := fun h => hCf ((W₀ A hh).sub _ h)
  intro k
  induction k with
  | zero =>
    intro i s₀ s m hk hi hst hn hsince hkp
    obtain rfl : i = n₀ := Nat.le_antisymm hi (Nat.le_of_sub_eq_zero hk)
    show Seg _ A _ _ _ s₀ _ ((compTurn (gx elt iter x px scope pos) 0 (.ref I) .none cenv).onRaise (leaving cenv)) [] s
    rw [compTurn_gen, Sem.onRaise_eq_wrap]
    refine seg_bind_wrap (wpAny_standAt (seg_bind_wrap ((W₀ _ hh').done s _ _ hst fun h' tk hk' => ?_)))
    exact seg_end (.ok .next) ⟨rfl, by rw [passing_end]; rfl, hsince.step fun b o _ hw e => hk' b o hw e⟩
  | succ k ih =>
    intro i s₀ s m hk hi hst hn hsince hkp
    have hlt : i < n₀ := Nat.sub_pos_iff_lt.mp (by rw [hk]; exact Nat.succ_pos _)
    show Seg _ A _ _ _ s₀ _ ((compTurn (gx elt iter x px scope pos) 0 (.ref I) .none cenv).onRaise (leaving cenv)) [] s
    rw [compTurn_gen, Sem.onRaise_eq_wrap]
    refine seg_bind_wrap (wpAny_standAt (seg_bind_wrap ((W₀ _ hh').item i s _ _ hlt hst fun v h₁ tk₁ hPv hst₁ hk₁ => ?_)))
    refine seg_bind_wrap (wpAny_of_eq (rfl : letOwnedTupleGo (.Name x px) (.ref I) v = pure ()) ?_)
    refine seg_bind_wrap (wpAny_assign_Name (wpAny_storeName_local hx (hn.at' fun o e => hk₁ _ o hCw e) (fun h₂ hn₂ hs₂ => ?_) hp))
    have up : ∀ b o, b ≠ cenv.locals → b ∉ wr → s.heap.get? b = some o → h₂.get? b = some o := fun b o hbC hbw e => hs₂.extBut b o hbC (hk₁ b o hbw e)
    have hst₂ : St₀ (i + 1) h₂ := (W₀ A hh).frame _ _ _ hst₁ fun b hb o e => hs₂.extBut b o (fun h => hCf (h ▸ hb)) e
    have hkp₂ : ∀ b ∈ fp, b ∉ wr → ∀ o, href.get? b = some o → h₂.get? b = some o := fun b hb hbw o e => up b o (fun h => hCf (h ▸ hb)) hbw (hkp b hb hbw o e)
    have since : GenSince cenv.locals wr s₀ { s with heap := h₂, toks := tk₁ + 1 } := hsince.step fun b o hbC hbw e => up b o hbC hbw e
    refine seg_bind_wrap (wpAny_tests_nil ?_)
    rw [passing_true hlt rfl, List.length_cons]
    simp only [if_true]
    have hy : ∀ v, yieldOut cenv v = yieldValue v := fun v => by simp only [yieldOut, hco, Bool.false_eq_true, if_false]
    simp only [hy]
    rw [Sem.bind_eq_wrap', Sem.bind_eq_wrap', Sem.wrap_wrap, Sem.wrap_wrap]
    refine seg_wrap (wpAny_mono (hq _ i v _ _ hPv hn₂ (by simp) hkp₂) (fun y s₄ h₄ => ?_) fun _ _ e => e)
    obtain ⟨hFy, h₄, tk₄, rfl, hk₄⟩ := h₄
    refine seg_at (seg_yield rfl rfl rfl ⟨⟨i, passing_here hlt rfl, hFy⟩, since.step fun b o _ _ e => hk₄ b o e, fun s'' hal => ?_⟩)
    exact seg_again rfl (ih (i + 1) s'' s'' _ (by rw [← Nat.sub_sub, hk]; rfl) hlt ((W₀ A hh).frame _ _ _ hst₂ fun b hb o e => hal b (List.mem_cons_of_mem _ hb) o (hk₄ b o e))
      ((hn₂.keeps hk₄).at' fun o e => hal _ (List.mem_cons_self ..) o e) (GenSince.refl _ _ _) fun b hb hbw o e => hal b (List.mem_cons_of_mem _ hb) o (hk₄ b o (hkp₂ b hb hbw o e)))
theorem genAtQ {elt iter : Expr} {x : Str} {px : Pos} {scope : Scope} {pos : Pos} {I a : Addr} {g : Nat} {fp wr : List Addr} {n₀ : Nat} {P : Nat → Value → Prop} {St₀ : Nat → Heap → Prop} {cenv : Env}
    (hh : A.handled = none) (W₀ : ∀ A' : Around, A'.handled = none → Walks prog w A' I fp wr n₀ P St₀) (F : Nat → Value → Prop)
    (hx : cenv.kindOf x = some .local) (hp : (cenv.scope.kind == .class || (cenv.scope.kind == .module && cenv.locals != cenv.globals)) = false)
    (hco : cenv.scope.isCoroutine = false) (hCf : cenv.locals ∉ fp) {s : Shared} {m : Str → Option Value}
    (hq : ∀ E' i v (s₂ : Shared) m₂, P i v → s₂.heap.Ns cenv.locals m₂ → m₂ x = some v → (∀ b ∈ fp, b ∉ wr → ∀ o, s.heap.get? b = some o → s₂.heap.get? b = some o) →
      wpAny (model prog w) (A.in1.over (.compLoop (gx elt iter x px scope pos) 0 (.ref I) .none cenv) []) (eval elt cenv) (fun y s₃ => F i y ∧ PySem.Keeps s₂ s₃) E' s₂)
    (hg : s.heap.IsGen a g) (hgs : s.gens[g]? = some (.fresh (.compStart (gx elt iter x px scope pos) 0 (.ref I) .none cenv)))
    (hst : St₀ 0 s.heap) (hn : s.heap.Ns cenv.locals m) (hl : s.heap.NoLimit) : GenAt prog w A a g cenv.locals fp wr pzT n₀ F 0 s := by
  refine ⟨hg, hl, _, hgs, fun s'' hal => ⟨rfl, ?_⟩⟩
  have hst'' : St₀ 0 s''.heap := (W₀ A hh).frame _ _ _ hst fun b hb o e => hal b (List.mem_cons_of_mem _ hb) o e
  have loop := seg_loopQ (A := A.in1) (iter := iter) (px := px) (scope := scope) (pos := pos) hh W₀ F s.heap hx hp hco hCf hq n₀ 0 s'' s'' m (Nat.sub_zero _) (Nat.zero_le _) hst'' (hn.at' fun o e => hal _ (List.mem_cons_self ..) o e) (GenSince.refl _ _ _) fun b hb _ o e => hal b (List.mem_cons_of_mem _ hb) o e
  have hh' : (A.in1.over (.compStart (gx elt iter x px scope pos) 0 (.ref I) .none cenv) []).handled = none := hh
  show Seg _ A.in1 _ _ _ s'' _ ((compStart (gx elt iter x px scope pos) 0 (.ref I) .none cenv).onRaise (leaving cenv)) [] s''
  unfold compStart
  rw [Sem.onRaise_eq_wrap]
  show Seg _ A.in1 _ _ _ s'' _ ((ask >>= _).wrap _ _ _ _) [] s''
  refine seg_bind_wrap (wpAny_askSetting ?_)
  split
  · exact seg_again rfl loop
  · first
      | exact seg_bind_wrap (wpAny_rule (seg_bind_wrap (wpAny_standAt (seg_bind_wrap ((W₀ _ hh').self 0 s'' _ _ hst'' (seg_again rfl loop))))))
      | (refine seg_bind_wrap (wpAny_rule ?_); show Seg _ A.in1 _ _ _ s'' _ ((standAt iter.pos >>= _).wrap _ _ _ _) [] s''; exact seg_bind_wrap (wpAny_standAt (seg_bind_wrap ((W₀ _ hh').self 0 s'' _ _ hst'' (seg_again rfl loop)))))
end
end

section
theorem news_sub6 {h₀ h : Heap} {L : Addr} {l l' : List (Addr × Obj)} (N : News h₀ L h l) (hs : ∀ p ∈ l', p ∈ l) : News h₀ L h l' := fun p hp => N p (hs p hp)
noncomputable abbrev tabO (ps : Array Value) : Obj := { cls := .none, data := .fields ps }
noncomputable abbrev codO : Obj := { cls := .type "code", data := .fields #[.str (Str.ofString "join") 1360, .str (Str.ofString "join") 1361, .str (Str.ofString "/claim/cut.py") 1362, .int 811 0, .int 1 0, .int 0 0, .int 0 0, .int 3 0, .ref 824, .bool true, .int 318 0, .ref 825, .none, .ref 826, .ref 827, .ref 828, .int 1364 0, .int 811 0, .str (Str.ofString "/claim/cut.py") 1365] }
theorem at829 {w : World} {h : Heap} (X : (KY w.params).In h) : h.get? 829 = some codO := X _ _ (by k_is)
theorem isCode {w : World} {h : Heap} {ps : Array Value} (h1 : h.get? 829 = some codO) (h2 : h.get? 825 = some (tabO ps)) (h3 : TriplesOk ps.toList) : h.IsCode 829 825 ps :=
  ⟨_, _, _, _, _, _, _, _, _, _, h1, rfl, rfl, rfl, rfl, rfl, rfl, h2, rfl, h3, by decide⟩
noncomputable abbrev gS : Scope := { kind := .function, names := [(Str.ofString ".0", .local), (Str.ofString "arg", .local), (Str.ofString "quote", .globalImplicit)], isGenerator := true, isCoroutine := false }
noncomputable abbrev jS : Scope := { kind := .function, names := [(Str.ofString "split_command", .local)], isGenerator := false, isCoroutine := false }
noncomputable def joinT : List (List Nat) → List Nat
  | [] => []
  | [a] => a
  | a :: r => a ++ [32] ++ joinT r
theorem join_eq (ws : List (List Nat)) : Txt.join (Str.ofString " ") (ws.map mkS) = mkS (joinT ws) := by
  rw [e5]
  unfold Txt.join
  rw [StrLaws.glued_eq_join]
  induction ws with
  | nil => rfl
  | cons a r ih =>
    cases r with
    | nil => rfl
    | cons b q =>
      show mkS a ++ mkS [32] ++ Str.join (mkS [32]) ((b :: q).map mkS) = mkS (a ++ [32] ++ joinT (b :: q))
      rw [ih, mkS_app, mkS_app]
theorem passT (n : Nat) : passing pzT n 0 = List.range n := by
  unfold passing
  rw [List.drop_zero]
  exact List.filter_eq_self.mpr fun _ _ => rfl
section
variable {w : World} {pg : Program} {lz : List Str} {mean : ExcName → Option Value} {mg mb : Str → Option Value} {dp un : Nat} {gd : Option (List Code)} {cn : Str} {cs : Scope} {a : Addr} {ccd : Value} {cl : List (Str × Addr)} {outer : List Env} {A₀ : Around} {base h₀ : Heap} {L : Addr} {m : Str → Option Value} {s : Shared} {Q E : Value → Shared → Prop}

noncomputable def WordOk (word : List Nat) : Prop := ∃ b c r, word = 50 :: b :: c :: 32 :: r ∧ r.length ≤ 1000 ∧ ((Sre.forSearch cdN ⟨50 :: b :: c :: 32 :: r⟩ 0 0 (r.length + 4) false).runFor 4).outcome = some .matched
end
end

section
/-- what parse257 reads behind the first double quote -/
noncomputable def p257 : List Nat → List Nat
  | [] => []
  | [c] => if c = 34 then [] else [c]
  | c :: d :: r => if c = 34 then (if d = 34 then 34 :: p257 r else []) else c :: p257 (d :: r)
inductive PJ (news : List (Addr × Obj)) (l res : List Nat) (n : Nat) (m : Str → Option Value) (led : List (Addr × Obj)) : Prop
  | mk (i : Nat) (acc : List Nat) (ti ta tn tr : Tok) (c0 : n = l.length - i) (c1 : i ≤ l.length) (c2 : res = acc ++ p257 (l.drop i)) (c3 : acc.length ≤ i) (c4 : led = news) (c5 : m (Str.ofString "resp") = some (.str (mkS l) tr)) (c6 : m (Str.ofString "dirname") = some (.str (mkS acc) ta)) (c7 : m (Str.ofString "i") = some (.int i ti)) (c8 : m (Str.ofString "n") = some (.int l.length tn)) : PJ news l res n m led
inductive PP (h₀ : Heap) (L : Addr) (s : Shared) (news : List (Addr × Obj)) (res : List Nat) (f : Flow) (s' : Shared) : Prop
  | mk (p0 : f = .next) (h' : Heap) (tk : Nat) (m' : Str → Option Value) (ta : Tok) (c0 : s' = { s with heap := h', toks := tk }) (c1 : Fr h₀ L h' m') (c2 : News h₀ L h' news) (c3 : m' (Str.ofString "dirname") = some (.str (mkS res) ta)) : PP h₀ L s news res f s'
theorem fr_map4 {h₀ h : Heap} {L : Addr} {m : Str → Option Value} {x y z u : Str} {a b c d : Value} (F : Fr h₀ L h m) (hx : m x = some a) (hy : m y = some b) (hz : m z = some c) (hu : m u = some d) :
    Fr h₀ L h (fun v => if v = x then some a else if v = y then some b else if v = z then some c else if v = u then some d else m v) := by
  have : (fun v => if v = x then some a else if v = y then some b else if v = z then some c else if v = u then some d else m v) = m := by
    funext v
    split
    · rename_i e; rw [e, hx]
    · split
      · rename_i e; rw [e, hy]
      · split
        · rename_i e; rw [e, hz]
        · split
          · rename_i e; rw [e, hu]
          · rfl
  rw [this]; exact F
theorem fr_map1' {h₀ h : Heap} {L : Addr} {m : Str → Option Value} {x : Str} {a : Value} (F : Fr h₀ L h m) (hx : m x = some a) :
    Fr h₀ L h (fun u => if u = x then some a else m u) := by
  have : (fun u => if u = x then some a else m u) = m := by
    funext u
    split
    · rename_i e; rw [e, hx]
    · rfl
  rw [this]; exact F
theorem pp_mk {h₀ h' : Heap} {L : Addr} {s : Shared} {news : List (Addr × Obj)} {res acc : List Nat} {m' : Str → Option Value} {ta : Tok} {tk : Nat} (F : Fr h₀ L h' m') (N : News h₀ L h' news) (e : res = acc) (m1 : m' (Str.ofString "dirname") = some (.str (mkS acc) ta)) : PP h₀ L s news res .next { s with heap := h', toks := tk } := ⟨rfl, h', tk, m', ta, rfl, F, N, e ▸ m1⟩
theorem pp_brk {h₀ h' : Heap} {L : Addr} {s : Shared} {J : Nat → (Str → Option Value) → List (Addr × Obj) → Prop} {n : Nat} {news : List (Addr × Obj)} {res acc : List Nat} {m' : Str → Option Value} {ta : Tok} {tk : Nat} (F : Fr h₀ L h' m') (N : News h₀ L h' news) (e : res = acc) (m1 : m' (Str.ofString "dirname") = some (.str (mkS acc) ta)) : WhileStep2 h₀ L s J (PP h₀ L s news res) n .brk { s with heap := h', toks := tk } := pp_mk F N e m1
theorem pj_mk {news : List (Addr × Obj)} {l res acc : List Nat} {m' : Str → Option Value} {ti ta tn tr : Tok} {j : Int} (i : Nat) (hi : i ≤ l.length) (hr : res = acc ++ p257 (l.drop i)) (ha : acc.length ≤ i)
    (m1 : m' (Str.ofString "resp") = some (.str (mkS l) tr)) (m2 : m' (Str.ofString "dirname") = some (.str (mkS acc) ta)) (m3 : m' (Str.ofString "i") = some (.int j ti)) (m4 : m' (Str.ofString "n") = some (.int l.length tn)) (hj : j = (i : Int)) : PJ news l res (l.length - i) m' news := ⟨i, acc, ti, ta, tn, tr, rfl, hi, hr, ha, rfl, m1, m2, hj ▸ m3, m4⟩
theorem q257a (r : List Nat) (hr : r.length ≤ 100000) : Txt.slice (mkS (50 :: 53 :: 55 :: 32 :: 34 :: r)) none (some 3) = mkS [50, 53, 55] := by
  have := StrLaws.sliceText_to (x := mkS (50 :: 53 :: 55 :: 32 :: 34 :: r)) (j := 3) ⟨by decide, by simp; omega⟩
  exact this
theorem q257b (r : List Nat) (hr : r.length ≤ 100000) : Txt.slice (mkS (50 :: 53 :: 55 :: 32 :: 34 :: r)) (some 3) (some 5) = mkS [32, 34] := by
  have := StrLaws.sliceText_plain (x := mkS (50 :: 53 :: 55 :: 32 :: 34 :: r)) (i := 3) (j := 5) ⟨by decide, by decide, by simp; omega⟩
  exact this
theorem l257 : Str.ofString "257" = mkS [50, 53, 55] := by decide +kernel
theorem lsq : Str.ofString " \"" = mkS [32, 34] := by decide +kernel
section
variable {w : World} {pg : Program} {lz : List Str} {mean : ExcName → Option Value} {mg mb : Str → Option Value} {dp un : Nat} {gd : Option (List Code)} {cn : Str} {cs : Scope} {a : Addr} {ccd : Value} {cl : List (Str × Addr)} {outer : List Env} {A₀ : Around} {base h₀ : Heap} {L : Addr} {m : Str → Option Value} {s : Shared} {Q E : Value → Shared → Prop}

theorem lenS {A : Around} {E : Value → Shared → Prop} {Q : Value → Shared → Prop} {p : List Nat} {t : Tok} (hl : p.length ≤ 100000) (h : ∀ t' k, Q (.int (p.length : Int) t') { s with toks := k }) : Bx (wpAny (model PySem.Challenge.rw_nq0264_01.prog w) A (call (.builtin "len") [.str (mkS p) t]) Q E s) := by
  refine Bx.mk ?_
  have e : ((mkS p).length : Int) = (p.length : Int) := rfl
  exact P.len_str (by rw [e]; omega) (h _ _)
theorem eqq {c : Nat} (h : c = 34) : (mkS [c] == Str.ofString "\"") = true := by rw [h, e6]; decide
theorem neq {c : Nat} (h : c ≠ 34) : (mkS [c] == Str.ofString "\"") = false := neS e6 h
theorem eqq' {c : Nat} (h : c = 34) : (mkS [c] != Str.ofString "\"") = false := by rw [bne, eqq h]; rfl
theorem neq' {c : Nat} (h : c ≠ 34) : (mkS [c] != Str.ofString "\"") = true := by rw [bne, neq h]; rfl
theorem par_go {A : Around} {E : Value → Shared → Prop} {Q : Flow → Shared → Prop} {env : Env} {test : Expr} {body : List Stmt} {pos : Pos} {news led : List (Addr × Obj)} {l res : List Nat} {n₀ : Nat}
    (F : Fr h₀ L s.heap m) (N : News h₀ L s.heap led) (hJ : PJ news l res n₀ m led)
    (turn : ∀ n m₁ led₁ h₁ tk₁, Fr h₀ L h₁ m₁ → News h₀ L h₁ led₁ → PJ news l res n m₁ led₁ →
      wpAny (model PySem.Challenge.rw_nq0264_01.prog w) A (isTrue test env (eval test env)) (fun b s₂ =>
        if b = true then wpAny (model PySem.Challenge.rw_nq0264_01.prog w) A (execs body env) (WhileStep2 h₀ L s (PJ news l res) (PP h₀ L s news res) n) E s₂ else PP h₀ L s news res .next s₂) E { s with heap := h₁, toks := tk₁ })
    (hE : PassesOwn (model PySem.Challenge.rw_nq0264_01.prog w) A env E) (rest : ∀ f s', PP h₀ L s news res f s' → Q f s') :
    wpAny (model PySem.Challenge.rw_nq0264_01.prog w) A (exec (.While test body [] pos) env) Q E s :=
  wpAny_mono (While_inv2 (PJ news l res) F N hJ turn hE) rest (fun _ _ x => x)
end
end

section
theorem getD_mk (l : List Nat) (v : Nat) : (mkS l).cps.getD v 0 = l.getD v 0 := by
  show (⟨l⟩ : Array Nat).getD v 0 = _
  simp [Array.getD, List.getD_eq_getElem?_getD]
  split
  · rename_i h; rw [List.getElem?_eq_getElem h]; rfl
  · rename_i h; rw [List.getElem?_eq_none (Nat.le_of_not_lt h)]; rfl
theorem find3_at {l pre mid post : List Nat} {c : Nat} (h : l = pre ++ (mid ++ c :: post)) (hn : c ∉ mid) : Txt.find3 (mkS l) (mkS [c]) (pre.length : Int) = ((pre.length + mid.length : Nat) : Int) := by
  have hlen : l.length = pre.length + (mid.length + (post.length + 1)) := by rw [h]; simp
  have hfi : fromIndex (mkS l).length (pre.length : Int) = pre.length := by
    show fromIndex l.length (pre.length : Int) = pre.length
    unfold fromIndex
    rw [if_neg (Int.not_lt.mpr (Int.natCast_nonneg _)), Int.max_eq_right (Int.natCast_nonneg _)]
    rfl
  have at_ : l.getD (pre.length + mid.length) 0 = c := by
    rw [h, List.getD_eq_getElem?_getD, List.getElem?_append_right (Nat.le_add_right _ _), Nat.add_sub_cancel_left, List.getElem?_append_right (Nat.le_refl _), Nat.sub_self]; rfl
  have below : ∀ v, pre.length ≤ v → v < pre.length + mid.length → l.getD v 0 ≠ c := by
    intro v h1 h2 e
    rw [h, List.getD_eq_getElem?_getD, List.getElem?_append_right h1, List.getElem?_append_left (Nat.sub_lt_left_of_lt_add h1 h2), List.getElem?_eq_getElem (Nat.sub_lt_left_of_lt_add h1 h2)] at e
    exact hn (e ▸ List.getElem_mem _)
  have hlt : pre.length + mid.length < (mkS l).length := by show _ < l.length; rw [hlen, ← Nat.add_assoc]; exact Nat.lt_add_of_pos_right (Nat.succ_pos _)
  rcases StrLaws.find3_spec (mkS l) c (pre.length : Int) with ⟨_, h2⟩ | ⟨k, h1, h2, h3, h4, h5⟩
  · exact absurd ((getD_mk l _).trans at_) (h2 _ (by rw [hfi]; exact Nat.le_add_right _ _) hlt)
  · rw [hfi] at h2 h5
    have h4' := (getD_mk l k).symm.trans h4
    have : k = pre.length + mid.length := by
      rcases Nat.lt_trichotomy k (pre.length + mid.length) with q | q | q
      · exact absurd h4' (below k h2 q)
      · exact q
      · exact absurd ((getD_mk l _).trans at_) (h5 _ (Nat.le_add_right _ _) q)
    rw [← this]; exact h1
theorem find_at {l pre post : List Nat} {c : Nat} (h : l = pre ++ c :: post) (hn : c ∉ pre) : Txt.find (mkS l) (mkS [c]) = (pre.length : Int) := by
  have := find3_at (l := l) (pre := []) (mid := pre) (post := post) (c := c) (by rw [h]; rfl) hn
  have e : Txt.find (mkS l) (mkS [c]) = Txt.find3 (mkS l) (mkS [c]) ((([] : List Nat).length : Nat) : Int) := by
    unfold Txt.find Txt.find3
    rfl
  rw [e, this]; simp
theorem getD_mid (pre post : List Nat) (c : Nat) : (pre ++ c :: post).getD pre.length 0 = c := by
  rw [List.getD_eq_getElem?_getD, List.getElem?_append_right (Nat.le_refl _), Nat.sub_self]; rfl
theorem slice_mid {l pre mid post : List Nat} {i j : Int} (h : l = pre ++ (mid ++ post)) (hi : i = (pre.length : Int)) (hj : j = ((pre.length + mid.length : Nat) : Int)) : Txt.slice (mkS l) (some i) (some j) = mkS mid := by
  subst hi hj
  rw [slice_list l pre.length (pre.length + mid.length) (Nat.le_add_right _ _) (by rw [h]; simp), h]
  rw [List.drop_left, Nat.add_sub_cancel_left, List.take_left]
theorem l229 : Str.ofString "229" = mkS [50, 50, 57] := by decide +kernel
theorem lpo : Str.ofString "(" = mkS [40] := by decide +kernel
theorem lpc : Str.ofString ")" = mkS [41] := by decide +kernel
theorem q229a (r : List Nat) : Txt.slice (mkS (50 :: 50 :: 57 :: 32 :: r)) none (some 3) = mkS [50, 50, 57] := by
  have := StrLaws.sliceText_to (x := mkS (50 :: 50 :: 57 :: 32 :: r)) (j := 3) ⟨by decide, by simp; omega⟩
  exact this
section
variable {w : World} {pg : Program} {lz : List Str} {mean : ExcName → Option Value} {mg mb : Str → Option Value} {dp un : Nat} {gd : Option (List Code)} {cn : Str} {cs : Scope} {a : Addr} {ccd : Value} {cl : List (Str × Addr)} {outer : List Env} {A₀ : Around} {base h₀ : Heap} {L : Addr} {m : Str → Option Value} {s : Shared} {Q E : Value → Shared → Prop}

theorem findE {A : Around} {E : Value → Shared → Prop} {Q : Value → Shared → Prop} {x y : Str} {t u : Tok} {n : Int} (e : Txt.find x y = n) (h : ∀ t' k, Q (.int n t') { s with toks := k }) : Bx (wpAny (model PySem.Challenge.rw_nq0264_01.prog w) A (call (.builtin "str.find") [.str x t, .str y u]) Q E s) := by
  refine Bx.mk ?_
  subst e; exact SC.find (h _ _)
theorem find3E {A : Around} {E : Value → Shared → Prop} {Q : Value → Shared → Prop} {x y : Str} {t u v : Tok} {i n : Int} (e : Txt.find3 x y i = n) (h : ∀ t' k, Q (.int n t') { s with toks := k }) : Bx (wpAny (model PySem.Challenge.rw_nq0264_01.prog w) A (call (.builtin "str.find") [.str x t, .str y u, .int i v]) Q E s) := by
  refine Bx.mk ?_
  subst e; exact SC.find3 (h _ _)
theorem map5 {l : List (Str × Tok)} {a b c d e : Str} (h : l.map (·.1) = [a, b, c, d, e]) : ∃ t1 t2 t3 t4 t5, strValues l = [.str a t1, .str b t2, .str c t3, .str d t4, .str e t5] := by
  obtain ⟨p1, l1, rfl, rfl, h1⟩ := List.map_eq_cons_iff.mp h
  obtain ⟨p2, l2, rfl, rfl, h2⟩ := List.map_eq_cons_iff.mp h1
  obtain ⟨p3, l3, rfl, rfl, h3⟩ := List.map_eq_cons_iff.mp h2
  obtain ⟨p4, l4, rfl, rfl, h4⟩ := List.map_eq_cons_iff.mp h3
  obtain ⟨p5, l5, rfl, rfl, h5⟩ := List.map_eq_cons_iff.mp h4
  obtain rfl := List.map_eq_nil_iff.mp h5
  exact ⟨_, _, _, _, _, rfl⟩
theorem a5 (a d : Nat) : a + 1 + 4 + (d + 1 + 3) = a + d + 9 := by omega
theorem a6 (a d p : Nat) : a + (d + (p + 1 + 1) + 3 + 1) + 4 = a + d + p + 10 := by omega
theorem a7 (a d : Nat) : a + (d + 3 + 1) + 4 = a + d + 8 := by omega
theorem a8 (a d p : Nat) : 4 + a + 1 < a + d + p + 10 := by omega
theorem a9 {a d p : Nat} (ha : a ≤ 10) (hd : d ≤ 10) (hp : p ≤ 10) : a + d + p + 10 ≤ 100000 := Nat.le_trans (Nat.add_le_add_right (Nat.add_le_add (Nat.add_le_add ha hd) hp) 10) (by decide)
theorem a10 (a d p : Nat) : a + d + 8 < a + d + p + 10 := by omega
theorem i9 (m : Nat) : ((m + 9 : Nat) : Int) - 1 = ((m + 8 : Nat) : Int) := by show ((m + 8 : Nat) : Int) + 1 - 1 = _; exact Int.add_sub_cancel _ 1
theorem splitE {A : Around} {E : Value → Shared → Prop} {Q : Value → Shared → Prop} {news : List (Addr × Obj)} {x y a b c d e : Str} {t u : Tok} (F : Fr h₀ L s.heap m) (N : News h₀ L s.heap news) (he : Txt.split x y = [a, b, c, d, e]) (hy : (y.length == 0) = false) (hx : x.length ≤ 1000)
    (h : ∀ D h' k t1 t2 t3 t4 t5, Fr h₀ L h' m → News h₀ L h' ((D, listOf #[.str a t1, .str b t2, .str c t3, .str d t4, .str e t5] 0) :: news) → (∀ q ∈ news, q.1 < D) → Q (.ref D) { s with heap := h', toks := k }) :
    wpAny (model PySem.Challenge.rw_nq0264_01.prog w) A (call (.builtin "str.split") [.str x t, .str y u]) Q E s := by
  refine splitN1 F N hy (fun l h' k hl F' N' => ?_) (by rw [sizeLine_eq]; omega)
  rw [he] at hl
  obtain ⟨t1, t2, t3, t4, t5, ev⟩ := map5 hl
  rw [ev] at N'
  exact h _ _ _ t1 t2 t3 t4 t5 F' N' (fun q hq => Heap.lt_size (N q hq).1)
end
end

section
noncomputable abbrev t3o (p : Int) (t : Tok) (n : List Nat) (u : Tok) (h : Str) (v : Tok) (c : Nat) : Obj := { cls := .type "tuple", data := .seq #[.int p t, .str (mkS n) u, .str h v] c }
noncomputable def ltK (p1 : Int) (n1 : List Nat) (p2 : Int) (n2 : List Nat) : Bool := decide (p1 < p2) || (p1 == p2 && decide (n1 < n2))
theorem lt_irr (n : List Nat) : ¬ n < n := fun h => absurd h (List.lt_irrefl n)
theorem cmp_ofLt' {M : Model} {A : Around} {E : Value → Shared → Prop} {s : Shared} {a b : Value} {Q : Value → Shared → Prop} (h : wpAny M A (compareOp .Lt a b) Q E s) : wpAny M A (richCompare .Lt a b) Q E s := h
theorem lt3_tree (l b : Addr) {p1 p2 : Int} {n1 n2 : List Nat} {hs : Str} {t1 t2 u1 u2 v1 v2 : Tok} {c1 c2 : Nat} :
    Meets (Builtin.«tuple.__lt__» ⟨[.ref l, .ref b], []⟩)
      (fun A R s => s.heap.get? l = some (t3o p1 t1 n1 u1 hs v1 c1) ∧ s.heap.get? b = some (t3o p2 t2 n2 u2 hs v2 c2) ∧ R (.ok (.ret (.bool (ltK p1 n1 p2 n2)))) s) :=
  .of_wp fun prog w A R s h => by
    obtain ⟨hp, g, d, tk, os⟩ := s; obtain ⟨hl, hb, h⟩ := h
    have f2 := AutoSeq1.sub_tuple_tuple
    wp_walk using wpAny_loadPart' hl, wpAny_loadPart' hb, wpAny_forIn_list _ (fun rest b s' => b.1 = none ∧ s' = ⟨hp, g, d, tk, os⟩ ∧
      ((rest = [(Value.int p1 t1, Value.int p2 t2), (Value.str (mkS n1) u1, Value.str (mkS n2) u2), (Value.str hs v1, Value.str hs v2)]) ∨ (rest = [(Value.str (mkS n1) u1, Value.str (mkS n2) u2), (Value.str hs v1, Value.str hs v2)] ∧ p1 = p2) ∨
       (rest = [(Value.str hs v1, Value.str hs v2)] ∧ p1 = p2 ∧ n1 = n2) ∨ (rest = [] ∧ p1 = p2 ∧ n1 = n2))) _
    case turn =>
      rintro ⟨y, x⟩ rest b s' ⟨hb', rfl, hr⟩
      rcases hr with hr | ⟨hr, rfl⟩ | ⟨hr, rfl, rfl⟩ | ⟨hr, _⟩
      · injection hr with q1 q2
        cases q1
        subst q2
        refine wpAny_bind (wpAny_eqBool_int ?_)
        by_cases hpp : p1 = p2
        · subst hpp
          rw [show (p1 == p1) = true by simp]
          wp_walk
          exact ⟨rfl, rfl, .inr (.inl ⟨rfl, rfl⟩)⟩
        · rw [show (p1 == p2) = false by simpa using hpp]
          refine wpAny_bind (wpAny_rule (wpAny_bind (cmp_ofLt' (lt_int ?_))))
          refine wpAny_bind (wpAny_pure (wpAny_pure ?_))
          have e : ltK p1 n1 p2 n2 = decide (p1 < p2) := by
            have : (p1 == p2) = false := by simpa using hpp
            simp [ltK, this]
          rw [e] at h
          exact wpAny_pure ⟨_, rfl, h⟩
      · injection hr with q1 q2
        cases q1
        subst q2
        refine wpAny_bind (wpAny_eqBool_str ?_)
        by_cases hnn : n1 = n2
        · subst hnn
          rw [show decide (mkS n1 = mkS n1) = true by simp]
          wp_walk
          exact ⟨rfl, rfl, .inr (.inr (.inl ⟨rfl, rfl, rfl⟩))⟩
        · rw [show decide (mkS n1 = mkS n2) = false by
            refine decide_eq_false fun q => hnn ?_
            injection q with q1
            injection q1]
          refine wpAny_bind (wpAny_rule (wpAny_bind (cmp_ofLt' (PyProof.Rows.lt_str ?_))))
          refine wpAny_bind (wpAny_pure (wpAny_pure ?_))
          have e : ltK p1 n1 p1 n2 = decide (n1 < n2) := by simp [ltK]
          rw [e] at h
          exact wpAny_pure ⟨_, rfl, h⟩
      · injection hr with q1 q2
        cases q1
        subst q2
        refine wpAny_bind (wpAny_eqBool_str ?_)
        rw [show decide (hs = hs) = true by simp]
        wp_walk
        exact ⟨rfl, rfl, .inr (.inr (.inr ⟨rfl, rfl, rfl⟩))⟩
      · cases hr
    case fin =>
      rintro ⟨b1, b2⟩ s' ⟨hb', rfl, hr⟩
      simp only at hb'
      subst hb'
      rcases hr with hr | ⟨hr, _⟩ | ⟨hr, _⟩ | ⟨_, rfl, rfl⟩
      · cases hr
      · cases hr
      · cases hr
      · wp_walk
        refine ⟨_, rfl, ?_⟩
        have e : ltK p1 n1 p1 n1 = false := by simp [ltK, lt_irr]
        rw [e] at h
        simpa [Builtin.Tuple.tupleCompareSizes] using h
    case h =>
      exact ⟨rfl, rfl, .inl rfl⟩
end

section
noncomputable abbrev Itm3 := Value × Int × List Nat
noncomputable abbrev hereS : Str := Str.ofString "here"
noncomputable def Has3 (bs : List (Addr × Obj)) (e : Itm3) : Prop := ∃ a t u v c, e.1 = .ref a ∧ (a, t3o e.2.1 t e.2.2 u hereS v c) ∈ bs
noncomputable def lt3 (x y : Itm3) : Bool := ltK x.2.1 x.2.2 y.2.1 y.2.2
noncomputable def hpush : List Itm3 → Itm3 → List Itm3
  | [], x => [x]
  | [a], x => if lt3 x a = true then [x, a] else [a, x]
  | [a, b], x => if lt3 x a = true then [x, b, a] else [a, b, x]
  | [a, b, c], x => if lt3 x b = true then (if lt3 x a = true then [x, a, c, b] else [a, x, c, b]) else [a, b, c, x]
  | l, _ => l
noncomputable def hpop : List Itm3 → Option (Itm3 × List Itm3)
  | [a] => some (a, [])
  | [a, b] => some (a, [b])
  | [a, b, c] => some (a, if lt3 c b = true then [c, b] else [b, c])
  | [a, b, c, d] => some (a, if lt3 b c = true then (if lt3 d b = true then [d, b, c] else [b, d, c]) else (if lt3 d c = true then [d, b, c] else [c, b, d]))
  | _ => none
noncomputable abbrev vals (xs : List Itm3) : Array Value := (xs.map (·.1)).toArray
section
variable {w : World} {pg : Program} {lz : List Str} {mean : ExcName → Option Value} {mg mb : Str → Option Value} {dp un : Nat} {gd : Option (List Code)} {cn : Str} {cs : Scope} {a : Addr} {ccd : Value} {cl : List (Str × Addr)} {outer : List Env} {A₀ : Around} {base h₀ : Heap} {L : Addr} {m : Str → Option Value} {s : Shared} {Q E : Value → Shared → Prop}

theorem lt3N {A : Around} {E : Value → Shared → Prop} {Q : Value → Shared → Prop} {news : List (Addr × Obj)} {l b : Addr} {p1 p2 : Int} {n1 n2 : List Nat} {h : Str} {t1 t2 u1 u2 v1 v2 : Tok} {c1 c2 : Nat} (N : News h₀ L s.heap news) (m1 : (l, t3o p1 t1 n1 u1 h v1 c1) ∈ news) (m2 : (b, t3o p2 t2 n2 u2 h v2 c2) ∈ news) (hu : A.units < cLine)
    (hq : Q (.bool (ltK p1 n1 p2 n2)) s) : wpAny (model PySem.Challenge.rw_nq0264_01.prog w) A (compareOp .Lt (.ref l) (.ref b)) Q E s := by
  have h1 := (N _ m1).1
  have h2 := (N _ m2).1
  refine cmp_ofLt (wpAny_richCompare_same_or (T := "tuple") (op := .Lt) ⟨_, h1, rfl⟩ ⟨_, h2, rfl⟩ F.slot_tuple_lt ?_ (.inr hu))
  exact call_meets F.slot_tuple_lt ⟨_, h1, rfl⟩ F.entry_tuple_lt (F.args_tuple_lt_2 _ _) (lt3_tree l b) ⟨h1, h2, ⟨fun q => (by cases q), hq⟩⟩
theorem truthyL {A : Around} {E : Value → Shared → Prop} {Q : Bool → Shared → Prop} {news : List (Addr × Obj)} {l : Addr} {its : Array Value} {n : Nat} (N : News h₀ L s.heap news) (hm : (l, listOf its n) ∈ news) (hf : its.size ≤ 100) {b : Bool} (he : (!its.isEmpty) = b) (h : ∀ k, Q b { s with toks := k }) : wpAny (model PySem.Challenge.rw_nq0264_01.prog w) A (truthy (.ref l)) Q E s :=
  wpAny_truthy_list ⟨_, (N _ hm).1, rfl, _, rfl⟩ (by omega) (by rw [he]; exact h _)
theorem news_sub' {h₀ h : Heap} {L : Addr} {l l' : List (Addr × Obj)} (N : News h₀ L h l) (hs : ∀ p ∈ l', p ∈ l) : News h₀ L h l' := fun p hp => N p (hs p hp)
theorem mem_put {p0 : Addr × Obj} {l l' : List (Addr × Obj)} (h : p0 ∈ l) (hs : ∀ p ∈ l', p ∈ l) : ∀ p ∈ p0 :: l', p ∈ l := fun p hp => by
  rcases List.mem_cons.mp hp with rfl | hp
  · exact h
  · exact hs p hp
end
end

section
theorem rd_sq (w : List Nat) : ∀ (q : Bool) (t rest : List Nat), rd .sq q t (rp 39 [39, 34, 39, 34, 39] w ++ 39 :: rest) = rd .wd true (t ++ w) rest := by
  induction w with
  | nil => intro q t rest; simp [rp, rd]
  | cons c r ih =>
    intro q t rest
    by_cases hc : c = 39
    · subst hc
      simp only [rp, if_true, List.cons_append, List.nil_append, rd]
      simp only [if_true, if_false, Nat.reduceEqDiff]
      rw [ih, List.append_assoc]; rfl
    · simp only [rp, if_neg hc, List.cons_append, List.nil_append, rd]
      rw [ih, List.append_assoc]; rfl
theorem rd_quo (w rest : List Nat) : rd .sp false [] (quoT w ++ rest) = rd .wd true w rest := by
  unfold quoT
  have := rd_sq w false [] rest
  simp only [List.cons_append, List.nil_append, List.append_assoc, rd]
  simpa using this
theorem split_join : ∀ (ws : List (List Nat)), ws ≠ [] → splitAll (ws.length + 1) .sp (joinT (ws.map quoT)) = some ws
  | [], h => absurd rfl h
  | [a], _ => by
    have e : joinT ([a].map quoT) = quoT a ++ [] := by simp [joinT]
    rw [e]
    show splitAll 2 .sp _ = _
    unfold splitAll
    rw [rd_quo]
    simp [rd, splitAll]
  | a :: b :: r, _ => by
    have ih := split_join (b :: r) (by simp)
    have e : joinT ((a :: b :: r).map quoT) = quoT a ++ 32 :: joinT ((b :: r).map quoT) := by simp [joinT]
    rw [e]
    show splitAll ((b :: r).length + 1 + 1) .sp _ = _
    unfold splitAll
    rw [rd_quo]
    simp only [rd, if_true]
    simp only [Bool.true_eq_false, false_and, if_false, Bool.false_eq_true]
    rw [ih]; rfl
theorem fld_fin (x : Int) : ∃ i j k : Fin 6, fld x = sgn i ++ sgn j ++ sgn k :=
  ⟨⟨(x / 256 % 6).toNat, Nat.lt_succ_of_le (emN _ 5 (by decide) (by decide))⟩, ⟨(x / 256 / 6 % 6).toNat, Nat.lt_succ_of_le (emN _ 5 (by decide) (by decide))⟩, ⟨(x / 256 / 36 % 6).toNat, Nat.lt_succ_of_le (emN _ 5 (by decide) (by decide))⟩, rfl⟩
theorem par_fin (x : Int) : ∃ b : Fin 2, (x % 2).toNat = b.1 := ⟨⟨(x % 2).toNat, Nat.lt_succ_of_le (emN _ 1 (by decide) (by decide))⟩, rfl⟩
noncomputable def wordsT (x : Int) : List (List Nat) := [50, 53, 55] :: rp 34 [] (fld x) :: List.replicate (x % 2).toNat [98]
theorem split257' : ∀ (i j k : Fin 6) (b : Fin 2), splitAll 5 .sp ([50, 53, 55, 32, 34] ++ rp 34 [34, 34] (sgn i ++ sgn j ++ sgn k) ++ [34] ++ rep b.1 [32, 34, 98, 34]) = some ([50, 53, 55] :: rp 34 [] (sgn i ++ sgn j ++ sgn k) :: List.replicate b.1 [98]) := by decide +kernel
theorem split257 (x : Int) : splitAll 5 .sp (r257 x) = some (wordsT x) := by
  obtain ⟨i, j, k, e⟩ := fld_fin x
  obtain ⟨b, eb⟩ := par_fin x
  unfold r257 wordsT
  rw [e, eb]; exact split257' i j k b
theorem p257' : ∀ (i j k : Fin 6) (b : Fin 2), p257 (rp 34 [34, 34] (sgn i ++ sgn j ++ sgn k) ++ [34] ++ rep b.1 [32, 34, 98, 34]) = sgn i ++ sgn j ++ sgn k := by decide +kernel
noncomputable abbrev tail257 (x : Int) : List Nat := rp 34 [34, 34] (fld x) ++ [34] ++ rep (x % 2).toNat [32, 34, 98, 34]
theorem r257_eq (x : Int) : r257 x = 50 :: 53 :: 55 :: 32 :: 34 :: tail257 x := by unfold r257 tail257; simp
theorem p257_eq (x : Int) : p257 (tail257 x) = fld x := by
  obtain ⟨i, j, k, e⟩ := fld_fin x
  obtain ⟨b, eb⟩ := par_fin x
  unfold tail257
  rw [e, eb]; exact p257' i j k b
theorem r229_eq (x : Int) : r229 x = 50 :: 50 :: 57 :: 32 :: (rep (x % 3).toNat [97] ++ 40 :: (mrk x :: mrk x :: mrk x :: (dig (x % 64) ++ mrk x :: 41 :: rep (x % 2).toNat [98, 41]))) := by
  unfold r229; simp [rep]
noncomputable def mkF (i : Nat) : Nat := [124, 33, 58, 47].getD i 0
theorem mrk_fin (x : Int) : ∃ i : Fin 4, mrk x = mkF i := ⟨⟨(x / 64 % 4).toNat, Nat.lt_succ_of_le (emN _ 3 (by decide) (by decide))⟩, rfl⟩
theorem mk41 : ∀ i : Fin 4, mkF i ≠ 41 := by decide
theorem dig41 : ∀ p : Fin 64, 41 ∉ dig ((p.1 : Nat) : Int) := by decide +kernel
theorem split5 : ∀ (i : Fin 4) (p : Fin 64), Txt.split (mkS (mkF i :: mkF i :: mkF i :: (dig ((p.1 : Nat) : Int) ++ [mkF i]))) (mkS [mkF i]) = [mkS [], mkS [], mkS [], mkS (dig ((p.1 : Nat) : Int)), mkS []] := by decide +kernel
theorem word257 (x : Int) : WordOk (r257 x) := by
  refine ⟨53, 55, 34 :: tail257 x, r257_eq x, ?_, m257 _⟩
  have h1 := rp_len 34 [34, 34] 2 (by decide) (by decide) (fld x)
  have h2 := fld_len x
  have h3 : (x % 2).toNat ≤ 1 := emN _ 1 (by decide) (by decide)
  simp only [tail257, List.length_cons, List.length_append, List.length_nil, rep_len]
  exact Nat.le_trans (Nat.add_le_add_right (Nat.add_le_add (Nat.add_le_add_right (Nat.le_trans h1 (Nat.mul_le_mul_left 2 h2)) _) (Nat.mul_le_mul_right _ h3)) 1) (by decide)
theorem word229 (x : Int) : WordOk (r229 x) := by
  refine ⟨50, 57, _, r229_eq x, ?_, m229 _⟩
  have h1 : (x % 3).toNat ≤ 2 := emN _ 2 (by decide) (by decide)
  have h3 : (x % 2).toNat ≤ 1 := emN _ 1 (by decide) (by decide)
  have h4 := dig_len x
  simp only [List.length_cons, List.length_append, List.length_nil, rep_len]
  first
    | exact Nat.le_trans (Nat.add_le_add (Nat.mul_le_mul_right _ h1) (Nat.add_le_add_right (Nat.add_le_add_right (Nat.add_le_add_right (Nat.add_le_add_right (Nat.add_le_add h4 (Nat.add_le_add_right (Nat.add_le_add_right (Nat.mul_le_mul_right _ h3) 1) 1)) 1) 1) 1) 1)) (by decide)
    | omega
end

section
theorem shape3 {α : Type} (l : List α) (h : l.length ≤ 3) : l = [] ∨ (∃ a, l = [a]) ∨ (∃ a b, l = [a, b]) ∨ ∃ a b c, l = [a, b, c] := by
  cases l with
  | nil => exact .inl rfl
  | cons a l =>
    cases l with
    | nil => exact .inr (.inl ⟨a, rfl⟩)
    | cons b l =>
      cases l with
      | nil => exact .inr (.inr (.inl ⟨a, b, rfl⟩))
      | cons c l =>
        cases l with
        | nil => exact .inr (.inr (.inr ⟨a, b, c, rfl⟩))
        | cons d l => exact absurd h (by simp)
theorem shape4 {α : Type} (l : List α) (h1 : 1 ≤ l.length) (h : l.length ≤ 4) : (∃ a, l = [a]) ∨ (∃ a b, l = [a, b]) ∨ (∃ a b c, l = [a, b, c]) ∨ ∃ a b c d, l = [a, b, c, d] := by
  cases l with
  | nil => exact absurd h1 (by simp)
  | cons a l =>
    rcases shape3 l (Nat.le_of_succ_le_succ h) with rfl | ⟨b, rfl⟩ | ⟨b, c, rfl⟩ | ⟨b, c, d, rfl⟩
    · exact .inl ⟨a, rfl⟩
    · exact .inr (.inl ⟨a, b, rfl⟩)
    · exact .inr (.inr (.inl ⟨a, b, c, rfl⟩))
    · exact .inr (.inr (.inr ⟨a, b, c, d, rfl⟩))
section
variable {w : World} {pg : Program} {lz : List Str} {mean : ExcName → Option Value} {mg mb : Str → Option Value} {dp un : Nat} {gd : Option (List Code)} {cn : Str} {cs : Scope} {a : Addr} {ccd : Value} {cl : List (Str × Addr)} {outer : List Env} {A₀ : Around} {base h₀ : Heap} {L : Addr} {m : Str → Option Value} {s : Shared} {Q E : Value → Shared → Prop}
end
noncomputable abbrev Key := Int × List Nat
noncomputable def ltP (x y : Key) : Bool := ltK x.1 x.2 y.1 y.2
noncomputable def kpush : List Key → Key → List Key
  | [], x => [x]
  | [a], x => if ltP x a = true then [x, a] else [a, x]
  | [a, b], x => if ltP x a = true then [x, b, a] else [a, b, x]
  | [a, b, c], x => if ltP x b = true then (if ltP x a = true then [x, a, c, b] else [a, x, c, b]) else [a, b, c, x]
  | l, _ => l
noncomputable def kpop : List Key → Option (Key × List Key)
  | [a] => some (a, [])
  | [a, b] => some (a, [b])
  | [a, b, c] => some (a, if ltP c b = true then [c, b] else [b, c])
  | [a, b, c, d] => some (a, if ltP b c = true then (if ltP d b = true then [d, b, c] else [b, d, c]) else (if ltP d c = true then [d, b, c] else [c, b, d]))
  | _ => none
theorem hpush_keys (H : List Itm3) (x : Itm3) (hl : H.length ≤ 3) : (hpush H x).map (·.2) = kpush (H.map (·.2)) x.2 := by
  rcases shape3 H hl with rfl | ⟨e0, rfl⟩ | ⟨e0, e1, rfl⟩ | ⟨e0, e1, e2, rfl⟩
  · rfl
  · show List.map _ (if lt3 x e0 = true then _ else _) = (if lt3 x e0 = true then _ else _)
    split <;> rfl
  · show List.map _ (if lt3 x e0 = true then _ else _) = (if lt3 x e0 = true then _ else _)
    split <;> rfl
  · show List.map _ (if lt3 x e1 = true then (if lt3 x e0 = true then _ else _) else _) = (if lt3 x e1 = true then (if lt3 x e0 = true then _ else _) else _)
    split
    · split <;> rfl
    · rfl
theorem sub_nil {α : Type} {l : List α} : ∀ p ∈ ([] : List α), p ∈ l := fun _ h => nomatch h
theorem hpush_sub (H : List Itm3) (x : Itm3) : ∀ e ∈ hpush H x, e ∈ x :: H := by
  unfold hpush
  split
  all_goals (repeat' split)
  all_goals (repeat' (first | with_reducible exact sub_refl | with_reducible exact sub_nil | with_reducible refine sub_cons ?_ ?_ | with_reducible refine sub_tail ?_ | with_reducible exact List.mem_cons_self | with_reducible refine List.mem_cons_of_mem _ ?_))
theorem hpush_mem (H : List Itm3) (x : Itm3) : ∀ e ∈ hpush H x, e ∈ H ∨ e = x := fun e he => (List.mem_cons.mp (hpush_sub H x e he)).symm
theorem hpush_len (H : List Itm3) (x : Itm3) (hl : H.length ≤ 3) : (hpush H x).length = H.length + 1 := by
  rcases shape3 H hl with rfl | ⟨e0, rfl⟩ | ⟨e0, e1, rfl⟩ | ⟨e0, e1, e2, rfl⟩
  · rfl
  · simp only [hpush]; split <;> rfl
  · simp only [hpush]; split <;> rfl
  · simp only [hpush]
    split
    · split <;> rfl
    · rfl
theorem hpop_keys (H : List Itm3) (r : Itm3 × List Itm3) (h : hpop H = some r) : kpop (H.map (·.2)) = some (r.1.2, r.2.map (·.2)) := by
  unfold hpop at h
  split at h
  · cases h; rfl
  · cases h; rfl
  · rename_i a b c
    cases h
    show some (a.2, if lt3 c b = true then [c.2, b.2] else [b.2, c.2]) = _
    split <;> rfl
  · rename_i a b c d
    cases h
    show some (a.2, if lt3 b c = true then (if lt3 d b = true then [d.2, b.2, c.2] else [b.2, d.2, c.2]) else (if lt3 d c = true then [d.2, b.2, c.2] else [c.2, b.2, d.2])) = _
    split <;> (split <;> rfl)
  · cases h
theorem hpop_mem (H : List Itm3) (r : Itm3 × List Itm3) (h : hpop H = some r) : r.1 ∈ H ∧ (∀ e ∈ r.2, e ∈ H) ∧ H.length = r.2.length + 1 := by
  unfold hpop at h
  split at h
  · cases h; exact ⟨.head _, sub_nil, rfl⟩
  · cases h; exact ⟨.head _, sub_tail sub_refl, rfl⟩
  · cases h
    refine ⟨.head _, ?_, ?_⟩ <;> dsimp only <;> split
    any_goals rfl
    all_goals (repeat' (first | with_reducible exact sub_refl | with_reducible exact sub_nil | with_reducible refine sub_cons ?_ ?_ | with_reducible refine sub_tail ?_ | with_reducible exact List.mem_cons_self | with_reducible refine List.mem_cons_of_mem _ ?_))
  · cases h
    refine ⟨.head _, ?_, ?_⟩ <;> dsimp only <;> split <;> split
    any_goals rfl
    all_goals (repeat' (first | with_reducible exact sub_refl | with_reducible exact sub_nil | with_reducible refine sub_cons ?_ ?_ | with_reducible refine sub_tail ?_ | with_reducible exact List.mem_cons_self | with_reducible refine List.mem_cons_of_mem _ ?_))
  · cases h
end

section
section
variable {prog : Program} {w : World} {A : Around} {E : Value → Shared → Prop} {s : Shared} {h₀ : Heap} {L : Addr} {m : Str → Option Value} {env : Env}
noncomputable def SrcStep (prog : Program) (w : World) (A : Around) (h₀ : Heap) (L : Addr) (m : Str → Option Value) (env : Env) (elt : Expr) (x : Str) (scope : Scope) (cl : List (Str × Addr)) (Fin : Shared → List Value → List (Addr × Obj) → Prop) (n : Nat) (xv : Value) (s₁ : Shared) : Prop :=
  ∃ r a b c t u v news, xv = .ref r ∧ A.handled = none ∧ Fr h₀ L s₁.heap m ∧ News h₀ L s₁.heap news ∧ IsRange s₁.heap r a b c t u v ∧ Builtin.Range.small a b c = true ∧ Builtin.Range.rangeSize a b c = ((n : Nat) : Int) ∧ n ≤ sizeLine ∧
    ∀ g, LCg.CompRest prog w A h₀ L m env elt x scope cl { s₁ with heap := g } (fun _ => True) (fun _ _ => True) (Fin { s₁ with heap := g }) n 0 [] news
theorem ListComp_R {elt iter : Expr} {x : Str} {px : Pos} {scope : Scope} {cl : List (Str × Addr)} {pos : Pos} {Q : Value → Shared → Prop} {n : Nat} (_F₀ : Fr h₀ L s.heap m)
    (hclos : closureFor scope env = pure cl) (hcell : ∀ y ∈ scope.names, y.2 ≠ .cell) (hkind : scope.kind = .function)
    (hnames : ∀ y ∈ scope.names, y.2 = .local → scope.names.lookup y.1 = some .local) (hx : scope.names.lookup x = some .local)
    (h : wpAny (model prog w) A (eval iter env) (SrcStep prog w A h₀ L m env elt x scope cl (fun s₂ => LCg.FinE h₀ L m s₂ Q) n) E s)
    (hs : ∀ x, foldedSetIterable iter env x = pure x := by intro _; rfl) :
    wpAny (model prog w) A (eval (.ListComp elt [⟨.Name x px, iter, [], 0⟩] scope pos) env) Q E s := by
  rw [eval_ListComp]
  refine wpAny_comprehension_free (use := none) rfl hs hclos hkind hnames (wpAny_mono h (fun xv s₁ h₁ => ?_) fun _ _ e => e)
  obtain ⟨r, a, b, c, t, u, v, news, rfl, hh, F, N, hr, hsm, hn, hsz, R⟩ := h₁
  refine wpAny_pyIter_range hr hsm ?_
  have W0 : Walks prog w A s₁.heap.objs.size [s₁.heap.objs.size] [s₁.heap.objs.size] n (fun i v => i < n ∧ ∃ t, v = .int (a + i * c) t)
      (fun i h => IsRangeIter h s₁.heap.objs.size (a + (i : Nat) * c) ((n : Int) - (i : Nat)) c) := (Walks.range hh _ a c n).bound
  have W : Walks prog w A s₁.heap.objs.size [s₁.heap.objs.size] [s₁.heap.objs.size] n (fun _ _ => True) (fun i h => IsRangeIter h s₁.heap.objs.size (a + (i : Nat) * c) ((n : Int) - (i : Nat)) c) :=
    { sub := W0.sub, frame := W0.frame, done := W0.done, self := W0.self, item := fun i s Q E hi st hQ => W0.item i s Q E hi st fun v h' tk _ => hQ v h' tk True.intro }
  refine LCg.block_U W hsz (fun i h st => ⟨_, st⟩) (S := fun _ => True) (fun i h h' o nw st e e' _ _ _ => ?_) hcell hkind hx (by show IsRangeIter _ _ _ _ _; rw [hn]; simpa using Heap.get?_push_size _ rfl) (fun b hb => ?_)
    (F.keeps fun _ _ e => Heap.get?_push_of_some _ e) (N.grown fun _ _ e => Heap.get?_push_of_some _ e) (Nat.ne_of_lt F.ns.lt) (next_is_new F) (fun p hp => Nat.ne_of_lt (Heap.lt_size (N p hp).1)) trivial (R _) ?_
  · have st' : h.get? s₁.heap.objs.size = some _ := st
    show h'.get? s₁.heap.objs.size = some _
    rw [e', ← e]; exact st'
  · rw [List.mem_singleton.mp hb]
    show s₁.heap.objs.size < (s₁.heap.push _).objs.size
    rw [Heap.size_push]; exact Nat.lt_succ_self _
  · intro D C h tk m' ys news' F' N' o1 hn hC₀ hD₀ hCL hDL hCD offC fin
    refine ⟨m', hn, fun h'' hs'' => fin D h'' tk (F'.change hs'' hCL hC₀) (fun p hp => ?_) o1⟩
    refine ⟨hs''.extBut _ _ ?_ (N' p hp).1, (N' p hp).2⟩
    rcases List.mem_cons.mp hp with rfl | hp
    · exact Ne.symm hCD
    · exact offC p hp
theorem comp_ind {elt : Expr} {x : Str} {scope : Scope} {cl : List (Str × Addr)} {S : List (Addr × Obj) → Prop} {P : Nat → Value → Prop} {Fin : List Value → List (Addr × Obj) → Prop} {n : Nat}
    (J : Nat → List Value → List (Addr × Obj) → Prop) (fin : ∀ ys news, J n ys news → Fin ys news)
    (step : ∀ i ys news, i < n → J i ys news → ∀ v I oI C oC D m₂ h tk (E' : Value → Shared → Prop), P i v → LCg.NsObj oC m₂ → m₂ x = some v → Fr h₀ L h m → News h₀ L h ((I, oI) :: (C, oC) :: (D, LCg.lst ys) :: news) → LCg.Off3 I C D news → ((@Ne Nat I C) ∧ (@Ne Nat I D) ∧ (@Ne Nat C D)) →
      wpAny (model prog w) A (eval elt (compEnvC scope cl C env)) (LCg.CompEnd h₀ L m { s with heap := h, toks := tk } I oI C oC D (LCg.lst ys) S (fun y news' => J (i + 1) (ys ++ [y]) news')) E' { s with heap := h, toks := tk }) :
    ∀ k i ys news, k + i = n → J i ys news → LCg.CompRest prog w A h₀ L m env elt x scope cl s S P Fin k i ys news := by
  intro k
  induction k with
  | zero =>
    intro i ys news hi hJ
    obtain rfl : i = n := ki0 hi
    exact fin ys news hJ
  | succ k ih =>
    intro i ys news hi hJ v I oI C oC D m₂ h tk E' hP hC hx F N off ne
    refine wpAny_mono (step i ys news (ki1 hi) hJ v I oI C oC D m₂ h tk E' hP hC hx F N off ne) (fun y s₂ h2 => ?_) (fun _ _ e => e)
    obtain ⟨h', tk', news', e1, e2, e3, e4, e5, e6⟩ := h2
    exact ⟨h', tk', news', e1, e2, e3, e4, e5, ih _ _ _ (ki2 hi) e6⟩
end
end

section
noncomputable def keyX (x : Int) : Key := (x % 64, fld x)
noncomputable def kheap (xs : List Int) : List Key := xs.foldl (fun h x => kpush h (keyX x)) []
theorem kheap_snoc (xs : List Int) (x : Int) : kheap (xs ++ [x]) = kpush (kheap xs) (keyX x) := by unfold kheap; rw [List.foldl_append]; rfl
theorem krs_ind {prog : Program} {w : World} {A : Around} {E : Value → Shared → Prop} {s : Shared} {env : Env} {h₀ : Heap} {x : Str} {body : List Stmt} {Q : Flow → Shared → Prop} {I : Addr} {a c : Int} {n : Nat}
   (J : Nat → (Str → Option Value) → List (Addr × Obj) → Prop)
   (fin : ∀ m led, J n m led → ∀ h tk, Fr h₀ env.locals h m → News h₀ env.locals h led → Q .next { s with heap := h, toks := tk })
   (step : ∀ i m led, i < n → J i m led → ∀ t h tk, Fr h₀ env.locals h (fun y => if y = x then some (.int (a + (i : Int) * c) t) else m y) → News h₀ env.locals h ((I, krsIt (a + ((i + 1 : Nat) : Int) * c) ((n : Int) - ((i + 1 : Nat) : Int)) c) :: led) →
      wpAny (model prog w) A (execs body env) (UnrPost h₀ env.locals { s with heap := h, toks := tk } I (krsIt (a + ((i + 1 : Nat) : Int) * c) ((n : Int) - ((i + 1 : Nat) : Int)) c) (J (i + 1)) Q) E { s with heap := h, toks := tk }) :
   ∀ k i m led, k + i = n → J i m led → KrsRest prog w A E h₀ env x body Q s I a c n k i m led := by
  intro k
  induction k with
  | zero =>
    intro i m led hi hJ
    obtain rfl : i = n := ki0 hi
    exact fin m led hJ
  | succ k ih =>
    intro i m led hi hJ t h tk F N
    refine wpAny_mono (step i m led (ki1 hi) hJ t h tk F N) (fun f s₂ h2 => ?_) (fun _ _ e => e)
    cases f with
    | ret v => exact h2
    | brk => exact h2
    | next =>
      obtain ⟨a1, a2, a3, a4, e1, e2, e3, e4, e5⟩ := h2
      exact ⟨a1, a2, a3, a4, e1, e2, e3, e4, ih _ _ _ (ki2 hi) e5⟩
    | cont =>
      obtain ⟨a1, a2, a3, a4, e1, e2, e3, e4, e5⟩ := h2
      exact ⟨a1, a2, a3, a4, e1, e2, e3, e4, ih _ _ _ (ki2 hi) e5⟩
theorem ex_map1 {m : Str → Option Value} {x : Str} {a : Value} (hx : m x = some a) : ∃ m₂ : Str → Option Value, m = fun u => if u = x then some a else m₂ u := by
  refine ⟨m, ?_⟩
  funext u
  split
  · rename_i e; rw [e, hx]
  · rfl
theorem nm_fst {h₀ h : Heap} {L : Addr} {l : List (Addr × Obj)} {p : Addr} {o : Obj} (_N : News h₀ L h ((p, o) :: l)) : ∃ q : Nat, q = p := ⟨_, rfl⟩
theorem nm_snd {h₀ h : Heap} {L : Addr} {l : List (Addr × Obj)} {p : Addr × Obj} {a : Addr} {o : Obj} (_N : News h₀ L h (p :: (a, o) :: l)) : ∃ q : Obj, q = o := ⟨_, rfl⟩
theorem rsmall : ∀ n : Fin 5, Builtin.Range.small 0 ((2 * n.1 : Nat) : Int) 2 = true := by decide +kernel
theorem rsize : ∀ n : Fin 5, Builtin.Range.rangeSize 0 ((2 * n.1 : Nat) : Int) 2 = ((n.1 : Nat) : Int) := by decide +kernel
theorem repsT_get : ∀ (xs : List Int) (i : Nat) (x : Int), xs[i]? = some x → (repsT xs)[2 * i]? = some (r257 x) ∧ (repsT xs)[2 * i + 1]? = some (r229 x)
  | [], i, x, h => by simp at h
  | y :: r, 0, x, h => by simp at h; subst h; simp [repsT]
  | y :: r, i + 1, x, h => by
    have := repsT_get r i x (by simpa using h)
    rw [show 2 * (i + 1) = 2 * i + 1 + 1 from rfl]
    simpa [repsT] using this
theorem rv_get {rv : List Value} {ts : List (List Nat)} (h : DatAll [] rv (ts.map strD)) {j : Nat} {l : List Nat} (hj : ts[j]? = some l) : ∃ t, rv.toArray[j]? = some (.str (mkS l) t) := by
  have hlt : j < (ts.map strD).length := by
    rw [List.length_map]
    rcases Nat.lt_or_ge j ts.length with h' | h'
    · exact h'
    · rw [List.getElem?_eq_none h'] at hj; cases hj
  obtain ⟨v, hv, hd⟩ := h.get hlt
  have e : (ts.map strD)[j] = strD l := by
    have : (ts.map strD)[j]? = some (strD l) := by rw [List.getElem?_map, hj]; rfl
    rw [List.getElem?_eq_getElem hlt] at this
    exact Option.some.inj this
  rw [e] at hd
  cases hd with
  | str x t => exact ⟨t, by rw [List.getElem?_toArray, hv]⟩
theorem Has3.mono {bs bs' : List (Addr × Obj)} {e : Itm3} (h : Has3 bs e) (hs : ∀ p ∈ bs, p ∈ bs') : Has3 bs' e := by
  obtain ⟨a, t, u, v, c, h1, h2⟩ := h
  exact ⟨a, t, u, v, c, h1, hs _ h2⟩
theorem ne_cls {h₀ h : Heap} {L : Addr} {l : List (Addr × Obj)} {a b : Addr} {o o' : Obj} (N : News h₀ L h l) (m1 : (a, o) ∈ l) (m2 : (b, o') ∈ l) (hc : o.cls ≠ o'.cls) : a ≠ b := by
  rintro rfl
  have e1 := (N _ m1).1
  have e2 := (N _ m2).1
  exact hc (congrArg Obj.cls (Option.some.inj (e1.symm.trans e2)))
theorem news_mid {h₀ h : Heap} {L : Addr} {p1 p2 p3 p4 p5 p6 p7 q : Addr × Obj} {l : List (Addr × Obj)} (N : News h₀ L h (p1 :: p2 :: p3 :: p4 :: p5 :: p6 :: p7 :: q :: l)) : News h₀ L h (q :: p1 :: p2 :: p3 :: p4 :: p5 :: p6 :: p7 :: l) := fun p hp => N p (by revert p; repeat' (first | with_reducible exact sub_refl | with_reducible refine sub_cons ?_ ?_ | with_reducible refine sub_tail ?_ | with_reducible assumption | with_reducible exact List.mem_cons_self | with_reducible refine List.mem_cons_of_mem _ ?_))
noncomputable def kD (k : Key) : Dat := .tuple [.int k.1, .str (mkS k.2), .str hereS]
noncomputable def kpopAll : Nat → List Key → List Key
  | 0, _ => []
  | n + 1, ks => match kpop ks with
    | some (k, r) => k :: kpopAll n r
    | none => []
inductive PJ9 (hp : Nat) (base0 : List (Addr × Obj)) (all : List Key) (n i : Nat) (ys : List Value) (led : List (Addr × Obj)) : Prop
  | mk (H : List Itm3) (c' : Nat) (done : List Key) (c0 : led = (hp, listOf (vals H) c') :: base0) (c1 : H.length + i = n) (c2 : (∀ e ∈ H, Has3 base0 e)) (c3 : DatAll base0 ys (done.map kD)) (c4 : done ++ kpopAll H.length (H.map (·.2)) = all) : PJ9 hp base0 all n i ys led
inductive TJ (hp ra I : Nat) (base0 : List (Addr × Obj)) (xs : List Int) (i : Nat) (m : Str → Option Value) (led : List (Addr × Obj)) : Prop
  | mk (H : List Itm3) (c' : Nat) (add : List (Addr × Obj)) (c0 : led = (hp, listOf (vals H) c') :: (add ++ base0)) (c1 : H.length = i) (c2 : (∀ e ∈ H, Has3 add e)) (c3 : H.map (·.2) = kheap (xs.take i)) (c4 : m (Str.ofString "replies") = some (.ref ra)) (c5 : (∀ p ∈ add, p.1 ≠ hp ∧ p.1 ≠ I)) : TJ hp ra I base0 xs i m led
theorem tj_end {h₀ h' : Heap} {L : Addr} {s₁ : Shared} {tk hp ra I i c : Nat} {m' : Str → Option Value} {p1 p2 p3 p4 p5 p6 : Addr × Obj} {it : Obj} {add base0 tl : List (Addr × Obj)} {H : List Itm3} {D : Nat} {x : Int} {xs : List Int}
    (F : Fr h₀ L h' m') (N : News h₀ L h' ((hp, listOf (vals (hpush H (.ref D, x % 64, fld x))) c) :: p1 :: p2 :: p3 :: p4 :: p5 :: p6 :: (I, it) :: tl)) (htl : add ++ base0 = tl)
    (hI : p1.1 ≠ I ∧ p2.1 ≠ I ∧ p3.1 ≠ I ∧ p4.1 ≠ I ∧ hp ≠ I) (hn : p1.1 ≠ hp ∧ p2.1 ≠ hp ∧ p3.1 ≠ hp ∧ p4.1 ≠ hp) (bt : ∀ p ∈ tl, p.1 ≠ hp ∧ p.1 ≠ I) (h1 : Has3 [p1] (.ref D, x % 64, fld x)) (hH2 : ∀ e ∈ H, Has3 add e) (hH1 : H.length = i) (hl : H.length ≤ 3) (hH3 : H.map (·.2) = kheap (xs.take i)) (hx : xs[i]? = some x) (hm : m' (Str.ofString "replies") = some (.ref ra)) :
    UnrEnd h₀ L s₁ I it (TJ hp ra I base0 xs (i + 1)) { s₁ with heap := h', toks := tk } := by
  have s0 : ∀ p ∈ (p1 :: p2 :: p3 :: p4 :: add), p = p1 ∨ p = p2 ∨ p = p3 ∨ p = p4 ∨ p ∈ tl := by
    intro p hp
    simp only [List.mem_cons] at hp
    rcases hp with h | h | h | h | h
    · exact .inl h
    · exact .inr (.inl h)
    · exact .inr (.inr (.inl h))
    · exact .inr (.inr (.inr (.inl h)))
    · exact .inr (.inr (.inr (.inr (htl ▸ List.mem_append.mpr (.inl h)))))
  refine ⟨h', tk, m', (hp, listOf (vals (hpush H (.ref D, x % 64, fld x))) c) :: ((p1 :: p2 :: p3 :: p4 :: add) ++ base0), rfl, F, fun p hp => N p ?_, fun p hp => ?_, hpush H (.ref D, x % 64, fld x), c, p1 :: p2 :: p3 :: p4 :: add, rfl, ?_, ?_, ?_, hm, ?_⟩
  · rcases List.mem_cons.mp hp with rfl | h
    · exact .tail _ (.tail _ (.tail _ (.tail _ (.tail _ (.tail _ (.tail _ (.head _)))))))
    rcases List.mem_cons.mp h with rfl | h
    · exact .head _
    · rcases List.mem_append.mp h with h | h
      · rcases s0 p h with rfl | rfl | rfl | rfl | q
        · exact .tail _ (.head _)
        · exact .tail _ (.tail _ (.head _))
        · exact .tail _ (.tail _ (.tail _ (.head _)))
        · exact .tail _ (.tail _ (.tail _ (.tail _ (.head _))))
        · exact .tail _ (.tail _ (.tail _ (.tail _ (.tail _ (.tail _ (.tail _ (.tail _ q)))))))
      · exact .tail _ (.tail _ (.tail _ (.tail _ (.tail _ (.tail _ (.tail _ (.tail _ (htl ▸ List.mem_append.mpr (.inr h)))))))))
  · rcases List.mem_cons.mp hp with rfl | hp
    · exact hI.2.2.2.2
    · rcases List.mem_append.mp hp with hp | hp
      · rcases s0 p hp with q | q | q | q | q
        · rw [q]; exact hI.1
        · rw [q]; exact hI.2.1
        · rw [q]; exact hI.2.2.1
        · rw [q]; exact hI.2.2.2.1
        · exact (bt p q).2
      · exact (bt p (htl ▸ List.mem_append.mpr (.inr hp))).2
  · rw [hpush_len H _ hl, hH1]
  · intro e he
    rcases hpush_mem H _ e he with q | q
    · exact (hH2 e q).mono fun p hp => .tail _ (.tail _ (.tail _ (.tail _ hp)))
    · rw [q]; exact h1.mono fun p hp => by rw [List.mem_singleton.mp hp]; exact .head _
  · rw [hpush_keys H _ hl, hH3, List.take_add_one, hx]
    exact (kheap_snoc _ _).symm
  · intro p hp
    rcases s0 p hp with q | q | q | q | q
    · rw [q]; exact ⟨hn.1, hI.1⟩
    · rw [q]; exact ⟨hn.2.1, hI.2.1⟩
    · rw [q]; exact ⟨hn.2.2.1, hI.2.2.1⟩
    · rw [q]; exact ⟨hn.2.2.2, hI.2.2.2.1⟩
    · exact bt p q
section
variable {w : World} {pg : Program} {lz : List Str} {mean : ExcName → Option Value} {mg mb : Str → Option Value} {dp un : Nat} {gd : Option (List Code)} {cn : Str} {cs : Scope} {a : Addr} {ccd : Value} {cl : List (Str × Addr)} {outer : List Env} {A₀ : Around} {base h₀ : Heap} {L : Addr} {m : Str → Option Value} {s : Shared} {Q E : Value → Shared → Prop}

theorem lenL {A : Around} {E : Value → Shared → Prop} {Q : Value → Shared → Prop} {news : List (Addr × Obj)} {l : Addr} {its : Array Value} {n : Nat} (N : News h₀ L s.heap news) (hm : (l, listOf its n) ∈ news) (hf : its.size ≤ 1000) (h : ∀ t k, Q (.int (its.size : Int) t) { s with toks := k }) : wpAny (model PySem.Challenge.rw_nq0264_01.prog w) A (call (.builtin "len") [.ref l]) Q E s :=
  len_list ⟨_, (N _ hm).1, rfl, _, rfl⟩ (by omega) (h _ _)
theorem itemL {A : Around} {E : Value → Shared → Prop} {Q : Value → Shared → Prop} {value slice : Expr} {news : List (Addr × Obj)} {l : Addr} {its : Array Value} {n : Nat} {k : Int} {u : Tok} {v : Value} (N : News h₀ L s.heap news) (hm : (l, listOf its n) ∈ news) (h0 : 0 ≤ k) (h1 : k < 1000) (hx : its[k.toNat]? = some v) (h : Q v s)
    (hs : subscripted slice false (.ref l) (.int k u) = operate [.ref l, .int k u] (getItem (.ref l) (.int k u)) := by with_unfolding_all rfl) :
    wpAny (model PySem.Challenge.rw_nq0264_01.prog w) A (subscriptTail value slice (.ref l) (.int k u)) Q E s := by
  have hl : s.heap.IsList l its := ⟨_, (N _ hm).1, rfl, _, rfl⟩
  exact tail_any hl.typeIs slot_list_getitem.lookup (wpAny_getItem_list hl h0 (by omega) hx h) hs
end
end

section
noncomputable def pD : Program := { (default : Program) with main := { (default : Module) with body := [Stmt.Import [{ (default : PySem.Alias) with name := Str.ofString "sys" }] default] } }
theorem ns_hide {h : Heap} {a : Addr} {m : Str → Option Value} (h825 : h.get? 825 = some (tabO #[])) (n : h.Ns a m) : (hideAll h [825]).Ns a m := by
  obtain ⟨o, es, ep, ho, hd, r⟩ := n
  refine ⟨o, es, ep, hideAll_get _ ho (fun q => ?_), hd, r⟩
  rw [List.mem_singleton.mp q, h825] at ho
  cases ho
  cases hd
theorem top_hide {p : Program} {lz : List Str} {mean : ExcName → Option Value} {mg mb : Str → Option Value} {h : Heap} (T : Top p lz mean mg mb h) (h825 : h.get? 825 = some (tabO #[])) : ∃ lz', Top pD lz' mean mg mb (hideAll h [825]) := by
  refine ⟨lz ++ ((recsOf p).map (·.name) ++ ((litsOf p).map (·.1) ++ (clssOf p lz).map (·.name))), ?_⟩
  exact
    { g := ns_hide h825 T.g
      b := ns_hide h825 T.b
      nolimit := let ⟨mc, h1, h2⟩ := T.nolimit; ⟨mc, ns_hide h825 h1, h2⟩
      nodigits := let ⟨mc, h1, h2⟩ := T.nodigits; ⟨mc, ns_hide h825 h1, h2⟩
      fn := fun d hd => absurd hd (by show d ∉ ([] : List DefRec); simp)
      own := fun o ho => absurd ho (by show o ∉ ([] : List OwnSpec); simp)
      const := fun x d hv => absurd hv (by show ¬ (none : Option PyData) = some d; simp)
      free := fun x h1 h2 _ _ _ => T.free x h1 (fun q => h2 (List.mem_append.mpr (.inl q))) (fun q => h2 (List.mem_append.mpr (.inr (List.mem_append.mpr (.inl q))))) (fun q => h2 (List.mem_append.mpr (.inr (List.mem_append.mpr (.inr (List.mem_append.mpr (.inl q))))))) (fun q => h2 (List.mem_append.mpr (.inr (List.mem_append.mpr (.inr (List.mem_append.mpr (.inr q)))))))
      builtins := T.builtins
      tab := fun d hd => absurd hd (by show d ∉ ([] : List DefRec); simp)
      bmain := by
        obtain ⟨bm, ob, h1, h2, h3, h4, h5⟩ := T.bmain
        refine ⟨bm, ob, h1, h2, hideAll_get _ h3 (fun q => ?_), h4, h5⟩
        rw [List.mem_singleton.mp q, h825] at h3
        cases h3
        cases h4
      seer := fun hq => absurd hq (by decide +kernel) }
theorem start {w : World} {p : Program} {lz : List Str} {mean : ExcName → Option Value} {mg mb : Str → Option Value} {h h₁ : Heap} {L la : Addr} {m : Str → Option Value} {vs : List Value}
    (KX : (KZ w.params).In h) (T : Top p lz mean mg mb h) (F : Fr h L h₁ m) (hL : h.IsList la vs.toArray) :
    ∃ g₀ lz', (KY w.params).In g₀ ∧ Top pD lz' mean mg mb g₀ ∧ Fr g₀ L h₁ m ∧ News g₀ L h₁ [(825, tabO #[])] ∧ Below callerA g₀ [] g₀ ∧ g₀.IsList la vs.toArray ∧ (∀ b o, b ≠ 825 → h.get? b = some o → g₀.get? b = some o) := by
  have h825 : h.get? 825 = some (tabO #[]) := KX _ _ (by kernel_rfl)
  obtain ⟨lz', T'⟩ := top_hide T h825
  refine ⟨hideAll h [825], lz', KY_in' KX (fun a o ha e => hideAll_get _ e (fun q => ha (List.mem_singleton.mp q))), T', ⟨F.ns, fun b o e => F.keep b o (of_hideAll _ e), by rw [hideAll_size]; exact F.above⟩, fun q hq => ?_, below_caller _, ?_, fun b o hb e => hideAll_get _ e (fun q => hb (List.mem_singleton.mp q))⟩
  · rw [List.mem_singleton.mp hq]
    refine ⟨F.keep _ _ h825, fun e => ?_, hideAll_none _ (List.mem_cons_self ..)⟩
    have : @LT.lt Nat _ 825 h.objs.size := Heap.lt_size h825
    have e2 : @Eq Nat 825 L := e
    have := F.above
    exact absurd (Nat.lt_of_lt_of_le (Heap.lt_size h825) F.above) (by rw [← e]; exact Nat.lt_irrefl _)
  · obtain ⟨o, ho, hc, n, hn⟩ := hL
    refine ⟨o, hideAll_get _ ho (fun q => ?_), hc, n, hn⟩
    rw [List.mem_singleton.mp q, h825] at ho
    cases ho
    cases hc
theorem old_end {w : World} {h h' g₀ : Heap} {L : Addr} {m : Str → Option Value} {ps : Array Value} {l : List (Addr × Obj)} (KX : (KZ w.params).In h) (hg : ∀ b o, b ≠ 825 → h.get? b = some o → g₀.get? b = some o) (F : Fr g₀ L h' m) (N : News g₀ L h' l) (hm : (825, tabO ps) ∈ l) : OldK h h' := by
  have h825 : h.get? 825 = some (tabO #[]) := KX _ _ (by kernel_rfl)
  have h829 : h.get? 829 = some codO := at829 (KY_in KX)
  refine ⟨fun b o e => ?_, fun b o e => ?_⟩
  · by_cases hb : b = 825
    · subst hb
      rw [h825] at e
      cases e
      refine .inr (.inl ⟨⟨829, _, _, h829, rfl, rfl, rfl⟩, rfl, #[], ps, rfl, ?_⟩)
      rw [(N _ hm).1]
      simp
    · exact .inl (F.keep _ _ (hg b o hb e))
  · by_cases hb : b = 825
    · subst hb
      exact ⟨_, (N _ hm).1⟩
    · exact ⟨o, F.keep _ _ (hg b o hb e)⟩
end

section
theorem reps_word : ∀ (xs : List Int) (l : List Nat), l ∈ repsT xs → ∃ x, l = r257 x ∨ l = r229 x
  | [], l, h => by cases h
  | x :: r, l, h => by
    rcases List.mem_cons.mp h with rfl | h
    · exact ⟨x, .inl rfl⟩
    · rcases List.mem_cons.mp h with rfl | h
      · exact ⟨x, .inr rfl⟩
      · exact reps_word r l h
theorem reps_ok (xs : List Int) (l : List Nat) (h : l ∈ repsT xs) : WordOk l := by
  obtain ⟨x, rfl | rfl⟩ := reps_word xs l h
  · exact word257 x
  · exact word229 x
theorem reps_len : ∀ xs : List Int, (repsT xs).length = 2 * xs.length
  | [] => rfl
  | x :: r => by simp only [repsT, List.length_cons, reps_len r]; rfl
theorem datAll_len : ∀ {l : List (Addr × Obj)} {vs : List Value} {ds : List Dat}, DatAll l vs ds → vs.length = ds.length
  | _, _, _, .nil => rfl
  | _, _, _, .cons _ h => by simp only [List.length_cons, datAll_len h]
theorem quo_len (l : List Nat) : (quoT l).length ≤ 2 + 5 * l.length := by
  have := rp_len 39 [39, 34, 39, 34, 39] 5 (by decide) (by decide) l
  simp only [quoT, List.length_append, List.length_cons, List.length_nil]
  omega
theorem wordOk_len {l : List Nat} (h : WordOk l) : l.length ≤ 1004 := by
  obtain ⟨b, c, r, rfl, h1, _⟩ := h
  simp only [List.length_cons]; omega
theorem quo_sum : ∀ (ws : List (List Nat)), (∀ l ∈ ws, l.length ≤ 1004) → ((ws.map quoT).map List.length).sum ≤ 5022 * ws.length
  | [], _ => by simp
  | a :: r, h => by
    have := quo_sum r (fun l hl => h l (.tail _ hl))
    have h2 := quo_len a
    have h3 := h a (.head _)
    simp only [List.map_cons, List.sum_cons, List.length_cons]
    omega
theorem joinT_len : ∀ (ws : List (List Nat)), (joinT ws).length ≤ (ws.map List.length).sum + ws.length
  | [] => by simp [joinT]
  | [a] => by simp [joinT]
  | a :: b :: r => by
    have := joinT_len (b :: r)
    simp only [joinT, List.map_cons, List.sum_cons, List.length_append, List.length_cons, List.length_nil] at this ⊢
    omega
theorem joinT_mem {P : Nat → Prop} (h32 : P 32) : ∀ (ws : List (List Nat)), (∀ l ∈ ws, ∀ c ∈ l, P c) → ∀ c ∈ joinT ws, P c
  | [], _, c, h => by cases h
  | [a], h, c, hc => h a (.head _) c hc
  | a :: b :: r, h, c, hc => by
    have hc' : c ∈ (a ++ [32]) ++ joinT (b :: r) := hc
    rcases List.mem_append.mp hc' with hc | hc
    · rcases List.mem_append.mp hc with hc | hc
      · exact h a (.head _) c hc
      · rw [List.mem_singleton.mp hc]; exact h32
    · exact joinT_mem h32 (b :: r) (fun l hl => h l (.tail _ hl)) c hc
theorem rp_mem {P : Nat → Prop} {k : Nat} {z : List Nat} (hz : ∀ c ∈ z, P c) : ∀ (l : List Nat), (∀ c ∈ l, P c) → ∀ c ∈ rp k z l, P c
  | [], _, c, h => by cases h
  | a :: r, h, c, hc => by
    rcases List.mem_append.mp (show c ∈ (if a = k then z else [a]) ++ rp k z r from hc) with hc | hc
    · split at hc
      · exact hz c hc
      · rw [List.mem_singleton.mp hc]; exact h a (.head _)
    · exact rp_mem hz r (fun c hc => h c (.tail _ hc)) c hc
noncomputable def okB (c : Nat) : Bool := c != 9 && c != 10 && c != 13 && c != 92
theorem ok_of {l : List Nat} (h : l.all okB = true) : ∀ c ∈ l, okc c := by
  intro c hc
  have := List.all_eq_true.mp h c hc
  simp only [okB, Bool.and_eq_true, bne_iff_ne] at this
  exact ⟨this.1.1.1, this.1.1.2, this.1.2, this.2⟩
theorem ok257' : ∀ (i j k : Fin 6) (b : Fin 2), ([50, 53, 55, 32, 34] ++ rp 34 [34, 34] (sgn i ++ sgn j ++ sgn k) ++ [34] ++ rep b.1 [32, 34, 98, 34]).all okB = true := by decide +kernel
theorem ok257 (x : Int) : ∀ c ∈ r257 x, okc c := by
  apply ok_of
  obtain ⟨i, j, k, e⟩ := fld_fin x
  obtain ⟨b, eb⟩ := par_fin x
  unfold r257
  rw [e, eb]; exact ok257' i j k b
theorem okm : ∀ i : Fin 4, [mkF i].all okB = true := by decide
theorem okd : ∀ p : Fin 64, (dig ((p.1 : Nat) : Int)).all okB = true := by decide +kernel
theorem ok_rep {n : Nat} {l : List Nat} (h : l.all okB = true) : (rep n l).all okB = true := by
  rw [List.all_eq_true]
  intro c hc
  obtain ⟨q, h1, h2⟩ := List.mem_flatten.mp hc
  rw [(List.mem_replicate.mp h1).2] at h2
  exact List.all_eq_true.mp h c h2
theorem ok229 (x : Int) : ∀ c ∈ r229 x, okc c := by
  apply ok_of
  obtain ⟨j, e⟩ := mrk_fin x
  obtain ⟨p, ep⟩ := fin_of 64 (x % 64) (em0 x (by decide)) (em1 x (by decide))
  unfold r229
  rw [e, ep]
  have h1 := okm j
  have h2 := okd p
  have h3 : (rep (x % 3).toNat [97]).all okB = true := ok_rep (by decide)
  have h4 : (rep 3 [mkF j]).all okB = true := ok_rep (okm j)
  have h5 : (rep (x % 2).toNat [98, 41]).all okB = true := ok_rep (by decide)
  simp only [List.all_append, h1, h2, h3, h4, h5]
  decide
theorem ok_quo {l : List Nat} (h : ∀ c ∈ l, okc c) : ∀ c ∈ quoT l, okc c := by
  intro c hc
  unfold quoT at hc
  rcases List.mem_append.mp hc with hc | hc
  · rcases List.mem_append.mp hc with hc | hc
    · exact ok_of (l := [39]) (by decide) c hc
    · exact rp_mem (ok_of (by decide)) l h c hc
  · exact ok_of (l := [39]) (by decide) c hc
theorem reps_okc (xs : List Int) : ∀ c ∈ joinT ((repsT xs).map quoT), okc c := by
  refine joinT_mem (P := okc) (by unfold okc; decide) _ ?_
  intro l hl
  obtain ⟨q, hq, rfl⟩ := List.mem_map.mp hl
  refine ok_quo ?_
  obtain ⟨x, rfl | rfl⟩ := reps_word xs q hq
  · exact ok257 x
  · exact ok229 x
theorem reps_sum (xs : List Int) (h : xs.length ≤ 4) : (((repsT xs).map quoT).map List.length).sum + (repsT xs).length ≤ 100000 := by
  have h1 := quo_sum (repsT xs) (fun l hl => wordOk_len (reps_ok xs l hl))
  have h2 := reps_len xs
  omega
theorem reps_joinLen (xs : List Int) (h : xs.length ≤ 4) : (joinT ((repsT xs).map quoT)).length ≤ 100000 := by
  have h1 := joinT_len ((repsT xs).map quoT)
  have h2 := reps_sum xs h
  rw [List.length_map] at h1
  omega
theorem reps_hW {xs : List Int} {rv : List Value} (D : DatAll [] rv ((repsT xs).map strD)) : ∀ (i : Nat) (v : Value), rv.toArray[i]? = some v → ∃ word t, (repsT xs)[i]? = some word ∧ v = .str (mkS word) t ∧ WordOk word := by
  intro i v hv
  have hl := datAll_len D
  rw [List.length_map] at hl
  have hi : i < rv.length := by
    rcases Nat.lt_or_ge i rv.length with h | h
    · exact h
    · rw [List.getElem?_toArray, List.getElem?_eq_none h] at hv; cases hv
  have hj : (repsT xs)[i]? = some ((repsT xs)[i]'(by omega)) := List.getElem?_eq_getElem (by omega)
  obtain ⟨t, ht⟩ := rv_get D hj
  rw [hv] at ht
  exact ⟨_, t, hj, Option.some.inj ht, reps_ok xs _ (List.getElem_mem _)⟩
theorem reps_split (xs : List Int) (h : xs ≠ []) : splitAll ((repsT xs).length + 1) .sp (joinT ((repsT xs).map quoT)) = some (repsT xs) := by
  refine split_join _ ?_
  cases xs with
  | nil => exact absurd rfl h
  | cons a r => exact List.cons_ne_nil _ _
theorem strs_dat : ∀ {vs : List Value} {ts : List (List Nat)}, StrsAre vs ts → DatAll [] vs (ts.map strD)
  | _, _, .nil => .nil
  | _, _, .cons h => .cons (.str _ _) (strs_dat h)
noncomputable def smB (c : Nat) : Bool := decide (c < 0x110000)
theorem sm_str {l : List Nat} (h : l.all smB = true) : PyData.strOk (mkS l) = true := by
  unfold PyData.strOk
  show (l.toArray).all _ = true
  rw [List.all_toArray]
  exact h
theorem sm257' : ∀ (i j k : Fin 6) (b : Fin 2), ([50, 53, 55, 32, 34] ++ rp 34 [34, 34] (sgn i ++ sgn j ++ sgn k) ++ [34] ++ rep b.1 [32, 34, 98, 34]).all smB = true := by decide +kernel
theorem sm257 (x : Int) : (r257 x).all smB = true := by
  obtain ⟨i, j, k, e⟩ := fld_fin x
  obtain ⟨b, eb⟩ := par_fin x
  unfold r257
  rw [e, eb]; exact sm257' i j k b
theorem smm : ∀ i : Fin 4, [mkF i].all smB = true := by decide +kernel
theorem smd : ∀ p : Fin 64, (dig ((p.1 : Nat) : Int)).all smB = true := by decide +kernel
theorem sm_rep {n : Nat} {l : List Nat} (h : l.all smB = true) : (rep n l).all smB = true := by
  rw [List.all_eq_true]
  intro c hc
  obtain ⟨q, h1, h2⟩ := List.mem_flatten.mp hc
  rw [(List.mem_replicate.mp h1).2] at h2
  exact List.all_eq_true.mp h c h2
theorem sm229 (x : Int) : (r229 x).all smB = true := by
  obtain ⟨j, e⟩ := mrk_fin x
  obtain ⟨p, ep⟩ := fin_of 64 (x % 64) (em0 x (by decide)) (em1 x (by decide))
  unfold r229
  rw [e, ep]
  have h1 := smm j
  have h2 := smd p
  have h3 : (rep (x % 3).toNat [97]).all smB = true := sm_rep (by decide)
  have h4 : (rep 3 [mkF j]).all smB = true := sm_rep (smm j)
  have h5 : (rep (x % 2).toNat [98, 41]).all smB = true := sm_rep (by decide)
  simp only [List.all_append, h1, h2, h3, h4, h5]
  decide
theorem smF' : ∀ (i j k : Fin 6), (sgn i ++ sgn j ++ sgn k).all smB = true := by decide +kernel
theorem smF (x : Int) : (fld x).all smB = true := by
  obtain ⟨i, j, k, e⟩ := fld_fin x
  rw [e]; exact smF' i j k
theorem smR' : ∀ (i j k : Fin 6), (rp 34 [] (sgn i ++ sgn j ++ sgn k)).all smB = true := by decide +kernel
theorem smR (x : Int) : (rp 34 [] (fld x)).all smB = true := by
  obtain ⟨i, j, k, e⟩ := fld_fin x
  rw [e]; exact smR' i j k
theorem reps_dok (xs : List Int) : ∀ d ∈ (repsT xs).map strD, kqdOk 8 d = true := by
  intro d hd
  obtain ⟨q, hq, rfl⟩ := List.mem_map.mp hd
  show PyData.strOk (mkS q) = true
  obtain ⟨x, rfl | rfl⟩ := reps_word xs q hq
  · exact sm_str (sm257 x)
  · exact sm_str (sm229 x)
section
variable {w : World} {prog : Program} {A : Around} {h₀ : Heap} {L : Addr} {news n₁ n₂ : List (Addr × Obj)} {a b : Addr} {oa ob : Obj} {xs ys : List Value} {ka kb : Nat} {ds : List Dat} {s : Shared} {Q E : Value → Shared → Prop}
theorem ne_same (N : News h₀ L s.heap news) (ma : (a, oa) ∈ news) (ca : oa.cls = .type "list") (da : oa.data = .seq xs.toArray ka) (Da : DatAll n₁ xs ds) (sa : ∀ p ∈ n₁, p ∈ news)
    (mb : (b, ob) ∈ news) (cb : ob.cls = .type "list") (db : ob.data = .seq ys.toArray kb) (Db : DatAll n₂ ys ds) (sb : ∀ p ∈ n₂, p ∈ news)
    (ha : ∀ d ∈ ds, kqdOk 8 d = true) (hu : A.units + 64 < cLine) (h : Q (.bool false) s) : wpAny (model prog w) A (compareOp .NotEq (.ref a) (.ref b)) Q E s :=
  kqd_ne N ma ca da Da sa mb cb db Db sb ha ha hu (by simpa using h)
theorem eq_same (N : News h₀ L s.heap news) (ma : (a, oa) ∈ news) (ca : oa.cls = .type "list") (da : oa.data = .seq xs.toArray ka) (Da : DatAll n₁ xs ds) (sa : ∀ p ∈ n₁, p ∈ news)
    (mb : (b, ob) ∈ news) (cb : ob.cls = .type "list") (db : ob.data = .seq ys.toArray kb) (Db : DatAll n₂ ys ds) (sb : ∀ p ∈ n₂, p ∈ news)
    (ha : ∀ d ∈ ds, kqdOk 8 d = true) (hu : A.units + 64 < cLine) (h : Q (.bool true) s) : wpAny (model prog w) A (compareOp .Eq (.ref a) (.ref b)) Q E s :=
  kqd_eq N ma ca da Da sa mb cb db Db sb ha ha hu (by simpa using h)
end
end

section
inductive EltEndZ (h₀ : Heap) (L : Addr) (m : Str → Option Value) (s₁ : Shared) (own : List (Addr × Obj)) (news : List (Addr × Obj)) (K : Value → List (Addr × Obj) → Prop) (y : Value) (s₂ : Shared) : Prop
  | mk (h' : Heap) (tk : Nat) (add : List (Addr × Obj)) (c0 : s₂ = { s₁ with heap := h', toks := tk }) (c1 : Fr h₀ L h' m) (c2 : News h₀ L h' (own ++ (add ++ news))) (c3 : (∀ p ∈ add, ∀ q ∈ own, p.1 ≠ q.1)) (c4 : K y add) : EltEndZ h₀ L m s₁ own news K y s₂
noncomputable abbrev zOwn (C : Addr) (oC : Obj) (D : Addr) (oD : Obj) (Z : Nat) (o1 o2 o3 o4 o5 : Obj) : List (Addr × Obj) := [(C, oC), (D, oD), (Z + 4, o1), (Z + 2, o2), (Z + 3, o3), (Z, o4), (Z + 1, o5)]
noncomputable def ZO (Z a : Nat) : Prop := a ≠ Z + 4 ∧ a ≠ Z + 2 ∧ a ≠ Z + 3 ∧ a ≠ Z ∧ a ≠ Z + 1 ∧ a ≠ Z + 5 ∧ a ≠ Z + 6
noncomputable def ZOff (Z : Nat) (l : List (Addr × Obj)) : Prop := ∀ p ∈ l, ZO Z p.1
noncomputable def ZW (Z : Nat) : List Addr := [Z + 4, Z + 3, Z, Z + 1]
theorem zo_lt {Z a : Nat} (h : a < Z) : ZO Z a := by
  have n : ∀ k, a ≠ Z + k := fun k => Nat.ne_of_lt (Nat.lt_of_lt_of_le h (Nat.le_add_right Z k))
  exact ⟨n 4, n 2, n 3, n 0, n 1, n 5, n 6⟩
theorem zo_wr {Z a : Nat} (h : ZO Z a) : a ∉ ZW Z := by
  obtain ⟨q1, q2, q3, q4, q5, q6, q7⟩ := h
  intro hm
  rcases List.mem_cons.mp hm with e | hm
  · exact q1 e
  rcases List.mem_cons.mp hm with e | hm
  · exact q3 e
  rcases List.mem_cons.mp hm with e | hm
  · exact q4 e
  rcases List.mem_cons.mp hm with e | hm
  · exact q5 e
  cases hm
theorem z5_wr (Z : Nat) : (Z + 5 : Nat) ∉ ZW Z := by simp [ZW]
theorem z6_wr (Z : Nat) : (Z + 6 : Nat) ∉ ZW Z := by simp [ZW]
theorem z_st {Z l1 l2 : Nat} (b1 : l1 < Z) (b2 : l2 < Z) : ∀ c ∈ [Z + 4, Z + 2, Z + 3, Z, Z + 1, l1, l2], c ≠ Z + 6 ∧ c ≠ Z + 5 := by
  simp only [List.forall_mem_cons]
  have n : ∀ {a b : Nat}, a ≠ b → Z + a ≠ Z + b := fun h e => h (Nat.add_left_cancel e)
  have n1 := zo_lt b1
  have n2 := zo_lt b2
  exact ⟨⟨n (by decide), n (by decide)⟩, ⟨n (by decide), n (by decide)⟩, ⟨n (by decide), n (by decide)⟩, ⟨n (a := 0) (by decide), n (a := 0) (by decide)⟩, ⟨n (by decide), n (by decide)⟩, ⟨n1.2.2.2.2.2.2, n1.2.2.2.2.2.1⟩, ⟨n2.2.2.2.2.2.2, n2.2.2.2.2.2.1⟩, fun _ h => nomatch h⟩
theorem z_fr {h₀ h h' : Heap} {L : Addr} {m : Str → Option Value} {Z : Nat} (F : Fr h₀ L h m) (fr : ∀ c, Z ≤ c → h₀.get? c = none) (hL : @LT.lt Nat _ L Z) (up : ∀ c o, ZO Z c → h.get? c = some o → h'.get? c = some o) : Fr h₀ L h' m :=
  ⟨F.ns.at' fun o e => up _ o (zo_lt hL) e, fun c o e => up c o (zo_lt (Nat.lt_of_not_le fun q => by rw [fr c q] at e; cases e)) (F.keep c o e), F.above⟩
theorem z_news {h₀ h h' : Heap} {L : Addr} {Z : Nat} {D : Obj} {l : List (Addr × Obj)} (N : News h₀ L h ((Z + 5, D) :: l)) (off : ZOff Z l) (up : ∀ c o, ZO Z c → h.get? c = some o → h'.get? c = some o) (up5 : ∀ o, h.get? (Z + 5) = some o → h'.get? (Z + 5) = some o) : News h₀ L h' ((Z + 5, D) :: l) := fun p hp => by
  rcases List.mem_cons.mp hp with rfl | hp
  · exact ⟨up5 _ (N _ (.head _)).1, (N _ (.head _)).2⟩
  · exact ⟨up _ _ (off p hp) (N p (.tail _ hp)).1, (N p (.tail _ hp)).2⟩
theorem z_own {h₀ h : Heap} {L : Addr} {Z : Nat} {oC D o1 o2 o3 o4 o5 : Obj} {l : List (Addr × Obj)} (N : News h₀ L h ((Z + 5, D) :: l)) (fr : ∀ c, Z ≤ c → h₀.get? c = none) (hL : @LT.lt Nat _ L Z)
   (eC : h.get? (Z + 6) = some oC) (e1 : h.get? (Z + 4) = some o1) (e2 : h.get? (Z + 2) = some o2) (e3 : h.get? (Z + 3) = some o3) (e4 : h.get? Z = some o4) (e5 : h.get? (Z + 1) = some o5) :
   News h₀ L h (zOwn (Z + 6) oC (Z + 5) D Z o1 o2 o3 o4 o5 ++ l) := by
  have nw : ∀ c o, @LE.le Nat _ Z c → h.get? c = some o → h.get? c = some o ∧ c ≠ L ∧ h₀.get? c = none := fun c o hc e => ⟨e, Ne.symm (Nat.ne_of_lt (Nat.lt_of_lt_of_le hL hc)), fr c hc⟩
  intro p hp
  rcases List.mem_cons.mp hp with rfl | hp
  · exact nw _ _ (Nat.le_add_right _ _) eC
  rcases List.mem_cons.mp hp with rfl | hp
  · exact N _ (.head _)
  rcases List.mem_cons.mp hp with rfl | hp
  · exact nw _ _ (Nat.le_add_right _ _) e1
  rcases List.mem_cons.mp hp with rfl | hp
  · exact nw _ _ (Nat.le_add_right _ _) e2
  rcases List.mem_cons.mp hp with rfl | hp
  · exact nw _ _ (Nat.le_add_right _ _) e3
  rcases List.mem_cons.mp hp with rfl | hp
  · exact nw _ _ (Nat.le_refl _) e4
  rcases List.mem_cons.mp hp with rfl | hp
  · exact nw _ _ (Nat.le_add_right _ _) e5
  · exact N p (.tail _ hp)
theorem z_offO {Z : Nat} {oC D o1 o2 o3 o4 o5 : Obj} {l : List (Addr × Obj)} (off : ZOff Z l) : ∀ p ∈ l, ∀ q ∈ zOwn (Z + 6) oC (Z + 5) D Z o1 o2 o3 o4 o5, p.1 ≠ q.1 := fun p hp => by
  obtain ⟨q1, q2, q3, q4, q5, q6, q7⟩ := off p hp
  simp only [List.forall_mem_cons]
  exact ⟨q7, q6, q1, q2, q3, q4, q5, fun _ h => nomatch h⟩
theorem z_off5 {Z : Nat} {oC D o1 o2 o3 o4 o5 : Obj} {l l' : List (Addr × Obj)} (off : ZOff Z l) (sep : ∀ p ∈ l', ∀ q ∈ zOwn (Z + 6) oC (Z + 5) D Z o1 o2 o3 o4 o5, p.1 ≠ q.1) : ZOff Z (l' ++ l) := fun p hp => by
  rcases List.mem_append.mp hp with hp | hp
  · have z := sep p hp
    simp only [List.forall_mem_cons] at z
    exact ⟨z.2.2.1, z.2.2.2.1, z.2.2.2.2.1, z.2.2.2.2.2.1, z.2.2.2.2.2.2.1, z.2.1, z.1⟩
  · exact off p hp
theorem z_frame {h₀ h h' : Heap} {L : Addr} {Z l1 l2 : Nat} {oC D o1 o2 o3 o4 o5 a1 a2 : Obj} {l : List (Addr × Obj)} (N : News h₀ L h' (zOwn (Z + 6) oC (Z + 5) D Z o1 o2 o3 o4 o5 ++ l)) (m1 : (l1, a1) ∈ l) (m2 : (l2, a2) ∈ l)
   (e1 : h.get? (Z + 4) = some o1) (e2 : h.get? (Z + 2) = some o2) (e3 : h.get? (Z + 3) = some o3) (e4 : h.get? Z = some o4) (e5 : h.get? (Z + 1) = some o5) (g1 : h.get? l1 = some a1) (g2 : h.get? l2 = some a2) :
   ∀ c ∈ [Z + 4, Z + 2, Z + 3, Z, Z + 1, l1, l2], ∀ o, h.get? c = some o → h'.get? c = some o := by
  have one : ∀ (c : Nat) (o' : Obj), h.get? c = some o' → (c, o') ∈ zOwn (Z + 6) oC (Z + 5) D Z o1 o2 o3 o4 o5 ++ l → ∀ o, h.get? c = some o → h'.get? c = some o := fun c o' q1 q2 o e => by
    rw [q1] at e
    cases e
    exact (N _ q2).1
  simp only [List.forall_mem_cons]
  exact ⟨one _ _ e1 (.tail _ (.tail _ (.head _))), one _ _ e2 (.tail _ (.tail _ (.tail _ (.head _)))), one _ _ e3 (.tail _ (.tail _ (.tail _ (.tail _ (.head _))))), one _ _ e4 (.tail _ (.tail _ (.tail _ (.tail _ (.tail _ (.head _)))))), one _ _ e5 (.tail _ (.tail _ (.tail _ (.tail _ (.tail _ (.tail _ (.head _))))))), one _ _ g1 (List.mem_append.mpr (.inr m1)), one _ _ g2 (List.mem_append.mpr (.inr m2)), fun _ h => nomatch h⟩
inductive ZI (h₀ : Heap) (L : Addr) (m : Str → Option Value) (s : Shared) (n Z : Nat) (St : Nat → Heap → Prop) (J : Nat → List Value → List (Addr × Obj) → Prop) (news : List (Addr × Obj)) (k : Nat) (s' : Shared) : Prop
  | mk (h' : Heap) (tk : Nat) (i : Nat) (ys : List Value) (add : List (Addr × Obj)) (m' : Str → Option Value) (c0 : s' = { s with heap := h', toks := tk }) (c1 : i ≤ n) (c2 : k = n + 1 - i) (c3 : ys.length = i) (c4 : St i h') (c5 : Fr h₀ L h' m) (c6 : h'.Ns (Z + 6) m') (c7 : News h₀ L h' ((Z + 5, LCg.lst ys) :: (add ++ news))) (c8 : ZOff Z (add ++ news)) (c9 : J i ys add) : ZI h₀ L m s n Z St J news k s'
section
variable {prog : Program} {w : World} {A : Around} {E : Value → Shared → Prop} {s : Shared} {h₀ : Heap} {L : Addr} {m : Str → Option Value} {env : Env}
theorem Assign_ListComp_Z {elt iter : Expr} {a b y : Str} {pa pb tp py : Pos} {kk : Nat} {scope : Scope} {cl : List (Str × Addr)} {pos spos : Pos} {Q : Flow → Shared → Prop}
    (hLe : env.locals = L)
    (hsw : swapsWith (.ListComp elt [⟨.Tuple [.Name a pa, .Name b pb] kk tp, iter, [], 0⟩] scope pos) (some (.Name y py)) spos.line env = pure true)
    (hclos : closureFor scope env = pure cl) (hcell : ∀ z ∈ scope.names, z.2 ≠ .cell) (hkind : scope.kind = .function)
    (hnames : ∀ z ∈ scope.names, z.2 = .local → scope.names.lookup z.1 = some .local) (hxa : scope.names.lookup a = some .local) (hxb : scope.names.lookup b = some .local) (hab : ¬ a = b)
    (hy : env.kindOf y = some .local) (hp : (env.scope.kind == .class || (env.scope.kind == .module && env.locals != env.globals)) = false)
    (hh : A.handled = none) {J : Nat → List Value → List (Addr × Obj) → Prop} {l1 l2 : Addr} {its1 its2 : Array Value} {c1 c2 : Nat} {news : List (Addr × Obj)} (hm1 : (l1, listOf its1 c1) ∈ news) (hm2 : (l2, listOf its2 c2) ∈ news) (hsz : its1.size ≤ sizeLine) (hsame : its2.size = its1.size)
    (F : Fr h₀ L s.heap m) (N : News h₀ L s.heap news) (hJ : J 0 [] [])
    (h : ∀ Q' : Value → Shared → Prop, wpAny (model prog w) A (call (.type "zip") [.ref l1, .ref l2]) Q' E s → wpAny (model prog w) A (eval iter env) Q' E s)
    (step : ∀ i ys add x v C oC D Z o1 o2 o3 o4 o5 m₂ h tk (E' : Value → Shared → Prop), its1[i]? = some x → its2[i]? = some v → J i ys add → LCg.NsObj oC m₂ → m₂ a = some x → m₂ b = some v → Fr h₀ L h m → News h₀ L h (zOwn C oC D (LCg.lst ys) Z o1 o2 o3 o4 o5 ++ (add ++ news)) →
      (∀ p ∈ add ++ news, ∀ q ∈ zOwn C oC D (LCg.lst ys) Z o1 o2 o3 o4 o5, p.1 ≠ q.1) →
      wpAny (model prog w) A (eval elt (compEnvC scope cl C env)) (EltEndZ h₀ L m { s with heap := h, toks := tk } (zOwn C oC D (LCg.lst ys) Z o1 o2 o3 o4 o5) (add ++ news) (fun r add' => J (i + 1) (ys ++ [r]) (add' ++ add))) E' { s with heap := h, toks := tk })
    (fin : ∀ ys add D h tk, ys.length = its1.size → J its1.size ys add → Fr h₀ L h (fun z => if z = y then some (.ref D) else m z) → News h₀ L h ((D, LCg.lst ys) :: (add ++ news)) → (∀ p ∈ news, p.1 < D) → (∀ p ∈ add, p.1 ≠ D) → Q .next { s with heap := h, toks := tk })
    (hs : ∀ x, foldedSetIterable iter env x = pure x := by intro _; rfl) :
    wpAny (model prog w) A (exec (.Assign [.Name y py] (.ListComp elt [⟨.Tuple [.Name a pa, .Name b pb] kk tp, iter, [], 0⟩] scope pos) spos) env) Q E s := by
  subst hLe
  rw [exec_Assign_Name_used _ _ _ _ hsw]
  refine wpAny_bind (wpAny_standAt (wpAny_bind ?_))
  show wpAny _ A (do let _ ← comprehension (.ListComp elt [⟨.Tuple [.Name a pa, .Name b pb] kk tp, iter, [], 0⟩] scope pos) scope env _ (newList []) false (eval iter env) (some (assign (.Name y py) env))) _ _ s
  refine wpAny_bind (wpAny_mono (wpAny_comprehension_free (use := some (assign (.Name y py) env)) (Q := fun _ s' => Q .next s') rfl hs hclos hkind hnames
    (h _ ?_)) (fun _ s' hq => wpAny_pure (wpAny_pure hq)) fun _ _ e => e)
  have hl1 : s.heap.IsList l1 its1 := ⟨_, (N _ hm1).1, rfl, _, rfl⟩
  have hl2 : s.heap.IsList l2 its2 := ⟨_, (N _ hm2).1, rfl, _, rfl⟩
  have a1 : l1 < s.heap.objs.size := Heap.lt_size (N _ hm1).1
  have a2 : l2 < s.heap.objs.size := Heap.lt_size (N _ hm2).1
  have fresh₀ : ∀ c, s.heap.objs.size ≤ c → h₀.get? c = none := fun c hc => by
    cases e : h₀.get? c with
    | none => rfl
    | some o' => exact absurd (Heap.lt_size (F.keep c o' e)) (Nat.not_lt.mpr hc)
  have hLlt : @LT.lt Nat _ env.locals s.heap.objs.size := F.ns.lt
  have pl : ∀ p ∈ news, @LT.lt Nat _ p.1 s.heap.objs.size := fun p hp => Heap.lt_size (N p hp).1
  refine call_zip_2 hl1 hl2 fun hz hzip hTI hTO hi1 hi2 hsize hkz => ?_
  refine wpAny_pyIter_zip hzip ?_
  have zap := zipApart_new a1 a2
  generalize hZ : s.heap.objs.size = Z at *
  have W := KTurns.ofWalksU (elts := [.Name a pa, .Name b pb]) (k := kk) (pos := tp) (WalksT.zip2 (prog := prog) (w := w) (A := A) hh _ _ _ _ _ _ _ zap its1 its2).toU
  have hmin : min its1.size its2.size = its1.size := by rw [hsame]; exact Nat.min_self _
  rw [hmin] at W
  refine wpAny_newObj_type (wpAny_newFunctionEnv hcell (by intro y hy; simp at hy) (fun h₁ hns₁ hsb₁ => ?_) hkind)
  dsimp only at hns₁ hsb₁ ⊢
  generalize hH2 : hz.push { cls := .type "list", dict := none, data := .seq ([] : List Value).toArray } = H2 at hns₁ hsb₁ ⊢
  have hC : H2.objs.size = Z + 6 := by rw [← hH2, Heap.size_push, hsize]
  rw [hC] at hns₁ hsb₁ ⊢
  rw [hsize]
  have old : ∀ c o, hz.get? c = some o → h₁.get? c = some o := fun c o e => hsb₁.extBut c o (by have q := Heap.lt_size e; rw [hsize] at q; exact Nat.ne_of_lt (Nat.lt_succ_of_lt q)) (Heap.get?_push_of_some _ (hH2 ▸ Heap.get?_push_of_some _ e))
  have hacc : h₁.get? (Z + 5) = some (LCg.lst []) := hsb₁.extBut _ _ (by show (_ : Nat) ≠ _; omega) (Heap.get?_push_of_some _ (by rw [← hH2, ← hsize]; exact Heap.get?_push_size _ rfl))
  have hst₁ := W.frame 0 _ h₁ ⟨hzip, hTI, ⟨_, _, hTO⟩, hi1, hi2, hl1.at fun o e => hkz _ o e, hl2.at fun o e => hkz _ o e⟩ fun c _ o e => old c o e
  have F₁ : Fr h₀ env.locals h₁ m := F.keeps fun c o e => old c o (hkz c o e)
  have N₁ : News h₀ env.locals h₁ news := N.grown fun c o e => old c o (hkz c o e)
  generalize hSt : (fun (i : Nat) (h : Heap) => IsZip h (Z + 4) (Z + 2) (Z + 3) .none ∧ IsPair h (Z + 2) (.ref Z) (.ref (Z + 1)) ∧ (∃ a b, IsPair h (Z + 3) a b) ∧ h.IsListIter Z l1 i ∧ h.IsListIter (Z + 1) l2 i ∧ h.IsList l1 its1 ∧ h.IsList l2 its2) = St at W
  replace hst₁ : St 0 h₁ := by rw [← hSt]; exact hst₁
  have five : ∀ i h, St i h → ∃ o1 o2 o3 o4 o5 : Obj, h.get? (Z + 4) = some o1 ∧ h.get? (Z + 2) = some o2 ∧ h.get? (Z + 3) = some o3 ∧ h.get? Z = some o4 ∧ h.get? (Z + 1) = some o5 := by
    intro i h q
    rw [← hSt] at q
    obtain ⟨q1, q2, ⟨_, _, q3⟩, ⟨o4, q4, _⟩, ⟨o5, q5, _⟩, _⟩ := q
    exact ⟨_, _, _, o4, o5, q1, q2, q3, q4, q5⟩
  have g0 := hst₁
  rw [← hSt] at g0
  clear hSt
  have zst := z_st a1 a2
  have loop : codeAny (model prog w) A (.compLoop (.ListComp elt [⟨.Tuple [.Name a pa, .Name b pb] kk tp, iter, [], 0⟩] scope pos) 0 (.ref (Z + 4)) (.ref (Z + 5)) (compEnvC scope cl (Z + 6) env))
        (compPost (model prog w) A E (some (assign (.Name y py) env)) (fun _ s' => Q .next s') (.ref (Z + 5)) (Z + 6)) { s with heap := h₁, toks := s.toks + ([] : List (Str × Value)).length } := by
    refine kcp_loop (ZI h₀ env.locals m s its1.size Z St J news) ?_ (its1.size + 1)
      ⟨h₁, _, 0, [], [], _, rfl, Nat.zero_le _, rfl, rfl, hst₁, F₁, hns₁, ?_, fun p hp => zo_lt (pl p hp), hJ⟩
    · rintro k s' ⟨h', tk, i, ys, add, m', rfl, hi, rfl, hyl, hst', F', hn', N', off', hJ'⟩
      by_cases hlt : i < its1.size
      · refine W.item i _ _ _ hlt hst' fun v h₂ tk₂ hMd hk₂ => ?_
        refine W.go i v _ _ _ hMd fun h₃ hP hst₃ hk₃ => ?_
        obtain ⟨T, vals, rfl, ⟨x, v, hx, hv, rfl⟩, hT⟩ := hP
        have up₃ : ∀ c o, c ∉ ZW Z → h'.get? c = some o → h₃.get? c = some o := fun c o hc e => hk₃ c o hc (hk₂ c o hc e)
        clear hk₃ hk₂
        refine kcp_assign (env := compEnvC scope cl (Z + 6) env) hh hT (lookup_relabel_local hxa) (lookup_relabel_local hxb) (by simp [compEnvC, relabel, hkind]) (hn'.at' fun o e => up₃ _ o (z6_wr Z) e) fun h₄ tk₄ hn₄ hs₄ => ?_
        have up : ∀ c o, ZO Z c → h'.get? c = some o → h₄.get? c = some o := fun c o h1 e => hs₄ c o h1.2.2.2.2.2.2 (up₃ c o (zo_wr h1) e)
        have up5 : ∀ o, h'.get? (Z + 5) = some o → h₄.get? (Z + 5) = some o := fun o e => hs₄ _ o (Nat.ne_of_lt (Nat.lt_succ_self _)) (up₃ _ o (z5_wr Z) e)
        have hst₄ : St (i + 1) h₄ := W.frame _ _ _ hst₃ fun c hc o e => hs₄ c o (zst c hc).1 e
        obtain ⟨o1, o2, o3, o4, o5, e1, e2, e3, e4, e5⟩ := five _ _ hst₄
        obtain ⟨oC, heC, hoC⟩ := LCg.ns_obj hn₄
        have N₄ := z_own (z_news N' off' up up5) fresh₀ hLlt heC e1 e2 e3 e4 e5
        refine wpAny_mono (step i ys add x v (Z + 6) oC (Z + 5) Z o1 o2 o3 o4 o5 _ h₄ tk₄ _ hx hv hJ' hoC (by simp [hab]) (by simp) (z_fr F' fresh₀ hLlt up) N₄ (z_offO off')) (fun r s₅ h₅ => ?_) fun _ _ e => e
        obtain ⟨h₅, tk₅, add₅, rfl, F₅, N₅, sep₅, hJ₅⟩ := h₅
        have qD := N₅ _ (List.mem_append.mpr (.inl (.tail _ (.head _))))
        have qC := N₅ _ (List.mem_append.mpr (.inl (.head _)))
        have m1 := List.mem_append.mpr (.inr (List.mem_append.mpr (.inr hm1 : (l1, listOf its1 c1) ∈ add ∨ _)) : (l1, listOf its1 c1) ∈ add₅ ∨ _)
        have m2 := List.mem_append.mpr (.inr (List.mem_append.mpr (.inr hm2 : (l2, listOf its2 c2) ∈ add ∨ _)) : (l2, listOf its2 c2) ∈ add₅ ∨ _)
        have hst₅ : St (i + 1) h₅ := W.frame _ _ _ hst₄ (z_frame N₅ m1 m2 e1 e2 e3 e4 e5 (N₄ _ (List.mem_append.mpr (.inr (List.mem_append.mpr (.inr hm1))))).1 (N₄ _ (List.mem_append.mpr (.inr (List.mem_append.mpr (.inr hm2))))).1)
        refine append_at (hsz := by show ys.toArray.size ≤ sizeLine; rw [List.size_toArray, hyl]; exact Nat.le_trans hi hsz) qD.1 fun h₆ hs₆ hD₆ => ?_
        have off₅ := z_off5 off' sep₅
        refine ⟨its1.size + 1 - (i + 1), Nat.sub_lt_sub_left (Nat.lt_succ_of_lt hlt) (Nat.lt_succ_self i), h₆, tk₅, i + 1, ys ++ [r], add₅ ++ add, _, rfl, hlt, rfl, by rw [List.length_append, List.length_singleton, hyl], W.frame _ _ _ hst₅ fun c hc o e => hs₆.extBut c o (zst c hc).2 e, F₅.change hs₆ qD.2.1 qD.2.2, (hoC.ns qC.1).sameBut hs₆ (Nat.ne_of_gt (Nat.lt_succ_self (Z + 5))), ?_, (List.append_assoc ..) ▸ off₅, hJ₅⟩
        rw [List.append_assoc]
        intro p hp
        rcases List.mem_cons.mp hp with rfl | hp
        · exact ⟨hD₆.trans (congrArg some (LCg.lst_snoc ys r)), qD.2⟩
        · have q := N₅ p (List.mem_append.mpr (.inr hp))
          exact ⟨hs₆.extBut _ _ (off₅ p hp).2.2.2.2.2.1 q.1, q.2⟩
      · obtain rfl : i = its1.size := Nat.le_antisymm hi (Nat.not_lt.mp hlt)
        refine W.done _ _ _ hst' fun h₂ tk₂ hk₂ => ?_
        have up : ∀ c o, ZO Z c → h'.get? c = some o → h₂.get? c = some o := fun c o h1 e => hk₂ c o (zo_wr h1) e
        have F₂ := z_fr F' fresh₀ hLlt up
        have N₂ := z_news N' off' up (fun o e => hk₂ _ o (z5_wr Z) e)
        show wpAny _ A (assign (.Name y py) env (.ref (Z + 5))) _ _ _
        refine wpAny_assign_Name (wpAny_storeName_local hy F₂.ns (fun h₃ hn₃ hs₃ => ?_) hp)
        have hL₀ : h₀.get? env.locals = none := Heap.get?_none_of_le F'.above
        have F₃ : Fr h₀ env.locals h₃ (fun z => if z = y then some (.ref (Z + 5)) else m z) := ⟨hn₃, fun c o e => hs₃.extBut c o (fun q => by rw [q, hL₀] at e; cases e) (F₂.keep c o e), F'.above⟩
        have z6L : (Z + 6 : Nat) ≠ env.locals := Ne.symm (Nat.ne_of_lt (Nat.lt_of_lt_of_le hLlt (Nat.le_add_right _ _)))
        refine ⟨m', (hn'.at' fun o e => hk₂ _ o (z6_wr Z) e).sameBut hs₃ z6L, fun h'' hs'' => fin ys add (Z + 5) h'' _ hyl hJ' (F₃.change hs'' z6L (fresh₀ _ (Nat.le_add_right _ _))) (fun p hp => ?_) (fun p hp => Nat.lt_of_lt_of_le (pl p hp) (Nat.le_add_right _ _)) (fun p hp => (off' p (List.mem_append.mpr (.inl hp))).2.2.2.2.2.1)⟩
        refine ⟨hs''.extBut _ _ ?_ (hs₃.extBut _ _ (N₂ p hp).2.1 (N₂ p hp).1), (N₂ p hp).2⟩
        rcases List.mem_cons.mp hp with rfl | hp
        · exact Nat.ne_of_lt (Nat.lt_succ_self _)
        · exact (off' p hp).2.2.2.2.2.2
    · intro p hp
      rcases List.mem_cons.mp hp with rfl | hp
      · exact ⟨hacc, Ne.symm (Nat.ne_of_lt (Nat.lt_of_lt_of_le hLlt (Nat.le_add_right _ _))), fresh₀ _ (Nat.le_add_right _ _)⟩
      · exact N₁ p hp
  exact codeAny_compStart_list loop (wpAny_pyIter_zip g0.1 loop)
end
end

section
noncomputable def kev {α : Type} (n : Nat) (lt : Nat → Nat → Bool) : KasT α → Option α
  | .ret a => some a
  | .ask i j k => if i < n ∧ j < n then kev n lt (k (lt i j)) else none
theorem kev_congr {α : Type} {n : Nat} {l1 l2 : Nat → Nat → Bool} (h : ∀ i j, i < n → j < n → l1 i j = l2 i j) : ∀ t : KasT α, kev n l1 t = kev n l2 t
  | .ret a => rfl
  | .ask i j k => by
    unfold kev
    by_cases q : i < n ∧ j < n
    · rw [if_pos q, if_pos q, h i j q.1 q.2]
      exact kev_congr h _
    · rw [if_neg q, if_neg q]
theorem kev_wp {α : Type} {n : Nat} {lt : Nat → Nat → Bool} {cmp : Nat → Nat → (Bool → Shared → Prop) → Shared → Prop} {Q : α → Shared → Prop} {s : Shared} (hc : ∀ i j (C : Bool → Shared → Prop), i < n → j < n → C (lt i j) s → cmp i j C s) {a : α} :
    ∀ t : KasT α, kev n lt t = some a → Q a s → t.kasWp cmp Q s
  | .ret b, h, hq => by
    cases h
    exact hq
  | .ask i j k, h, hq => by
    unfold kev at h
    by_cases q : i < n ∧ j < n
    · rw [if_pos q] at h
      exact hc i j _ q.1 q.2 (kev_wp hc (k (lt i j)) h hq)
    · rw [if_neg q] at h
      cases h
theorem ltP_irr (a : Key) : ltP a a = false := by
  simp [ltP, ltK, lt_irr]
theorem ltP_trans {a b c : Key} (h1 : ltP a b = true) (h2 : ltP b c = true) : ltP a c = true := by
  simp only [ltP, ltK, Bool.or_eq_true, Bool.and_eq_true, decide_eq_true_eq, beq_iff_eq] at *
  rcases h1 with h1 | ⟨h1, h1'⟩ <;> rcases h2 with h2 | ⟨h2, h2'⟩
  · exact .inl (by omega)
  · exact .inl (by omega)
  · exact .inl (by omega)
  · exact .inr ⟨by omega, List.lt_trans h1' h2'⟩
theorem ltP_tri (a b : Key) (h1 : ltP a b = false) (h2 : ltP b a = false) : a = b := by
  simp only [ltP, ltK, Bool.or_eq_false_iff, Bool.and_eq_false_iff, decide_eq_false_iff_not, beq_eq_false_iff_ne] at *
  have e1 : a.1 = b.1 := by omega
  have n1 : ¬ a.2 < b.2 := by rcases h1.2 with q | q; exact absurd e1 q; exact q
  have n2 : ¬ b.2 < a.2 := by rcases h2.2 with q | q; exact absurd e1.symm q; exact q
  exact Prod.ext e1 (List.le_antisymm (List.not_lt.mp n2) (List.not_lt.mp n1))
theorem ltP_neg {a b c : Key} (h1 : ltP a b = true) (h2 : ltP c b = false) : ltP a c = true := by
  cases h : ltP b c with
  | true => exact ltP_trans h1 h
  | false => rw [← ltP_tri b c h h2]; exact h1
noncomputable def rkN (ks : List Key) (k : Key) : Nat := (ks.filter (fun j => ltP j k)).length
theorem filter_le {α : Type} {p q : α → Bool} : ∀ (l : List α), (∀ x ∈ l, p x = true → q x = true) → (l.filter p).length ≤ (l.filter q).length
  | [], _ => Nat.le_refl _
  | a :: r, h => by
    have ih := filter_le r (fun x hx => h x (.tail _ hx))
    have h0 := h a (.head _)
    cases hp : p a with
    | true =>
      rw [List.filter_cons_of_pos hp, List.filter_cons_of_pos (h0 hp)]
      simp only [List.length_cons]; omega
    | false =>
      rw [List.filter_cons_of_neg (by simp [hp])]
      cases hq : q a with
      | true => rw [List.filter_cons_of_pos hq]; simp only [List.length_cons]; omega
      | false => rw [List.filter_cons_of_neg (by simp [hq])]; exact ih
theorem filter_lt {α : Type} {p q : α → Bool} : ∀ (l : List α), (∀ x ∈ l, p x = true → q x = true) → (∃ x ∈ l, p x = false ∧ q x = true) → (l.filter p).length < (l.filter q).length
  | [], _, ⟨_, h, _⟩ => by cases h
  | a :: r, h, ⟨x, hx, h1, h2⟩ => by
    have le := filter_le r (fun x hx => h x (.tail _ hx))
    have h0 := h a (.head _)
    rcases List.mem_cons.mp hx with rfl | hx
    · rw [List.filter_cons_of_neg (by simp [h1]), List.filter_cons_of_pos h2]
      simp only [List.length_cons]; omega
    · have ih := filter_lt r (fun x hx => h x (.tail _ hx)) ⟨x, hx, h1, h2⟩
      cases hp : p a with
      | true =>
        rw [List.filter_cons_of_pos hp, List.filter_cons_of_pos (h0 hp)]
        simp only [List.length_cons]; omega
      | false =>
        rw [List.filter_cons_of_neg (by simp [hp])]
        cases hq : q a with
        | true => rw [List.filter_cons_of_pos hq]; simp only [List.length_cons]; omega
        | false => rw [List.filter_cons_of_neg (by simp [hq])]; exact ih
theorem rkN_lt (ks : List Key) {a b : Key} (ha : a ∈ ks) : ltP a b = decide (rkN ks a < rkN ks b) := by
  cases h : ltP a b with
  | true =>
    refine (decide_eq_true ?_).symm
    exact filter_lt ks (fun x _ hx => ltP_trans hx h) ⟨a, ha, ltP_irr a, h⟩
  | false =>
    refine (decide_eq_false ?_).symm
    have := filter_le (p := fun j => ltP j b) (q := fun j => ltP j a) ks (fun x _ hx => ltP_neg hx h)
    show ¬ (ks.filter (fun j => ltP j a)).length < (ks.filter (fun j => ltP j b)).length
    omega
theorem rkN_inj (ks : List Key) {a b : Key} (ha : a ∈ ks) (hb : b ∈ ks) (h : rkN ks a = rkN ks b) : a = b := by
  refine ltP_tri a b ?_ ?_
  · rw [rkN_lt ks ha]; exact decide_eq_false (by omega)
  · rw [rkN_lt ks hb]; exact decide_eq_false (by omega)
noncomputable def rkK (ks : List Key) (k : Key) : Key := ((rkN ks k : Nat), [])
theorem rkK_lt (ks : List Key) {a b : Key} (ha : a ∈ ks) : ltP (rkK ks a) (rkK ks b) = ltP a b := by
  rw [rkN_lt ks ha]
  simp only [ltP, ltK, rkK, Int.ofNat_lt]
  simp [lt_irr]
theorem rkN_len (ks : List Key) {a : Key} (ha : a ∈ ks) : rkN ks a < ks.length := by
  have : (ks.filter (fun j => ltP j a)).length < (ks.filter (fun _ => true)).length := filter_lt ks (fun _ _ _ => rfl) ⟨a, ha, ltP_irr a, rfl⟩
  have e : ks.filter (fun _ => true) = ks := List.filter_eq_self.mpr (fun _ _ => rfl)
  rw [e] at this
  exact this
theorem kpush_map {f : Key → Key} (l : List Key) (x : Key) (h : ∀ a ∈ x :: l, ∀ b ∈ x :: l, ltP (f a) (f b) = ltP a b) : (kpush l x).map f = kpush (l.map f) (f x) := by
  match l, h with
  | [], _ => rfl
  | [a], h =>
    have h1 := h x (.head _) a (.tail _ (.head _))
    simp only [kpush, List.map_cons, List.map_nil, h1]
    split <;> rfl
  | [a, b], h =>
    have h1 := h x (.head _) a (.tail _ (.head _))
    simp only [kpush, List.map_cons, List.map_nil, h1]
    split <;> rfl
  | [a, b, c], h =>
    have h1 := h x (.head _) a (.tail _ (.head _))
    have h2 := h x (.head _) b (.tail _ (.tail _ (.head _)))
    simp only [kpush, List.map_cons, List.map_nil, h1, h2]
    split
    · split <;> rfl
    · rfl
  | a :: b :: c :: d :: r, _ => rfl
theorem kpush_sub (l : List Key) (x : Key) : ∀ e ∈ kpush l x, e ∈ x :: l := by
  unfold kpush
  split
  all_goals (repeat' split)
  all_goals (repeat' (first | with_reducible exact sub_refl | with_reducible exact sub_nil | with_reducible refine sub_cons ?_ ?_ | with_reducible refine sub_tail ?_ | with_reducible exact List.mem_cons_self | with_reducible refine List.mem_cons_of_mem _ ?_))
theorem kpush_mem (l : List Key) (x : Key) : ∀ e ∈ kpush l x, e = x ∨ e ∈ l := fun e he => List.mem_cons.mp (kpush_sub l x e he)
theorem kpop_map {f : Key → Key} (l : List Key) (h : ∀ a ∈ l, ∀ b ∈ l, ltP (f a) (f b) = ltP a b) : kpop (l.map f) = (kpop l).map (fun r => (f r.1, r.2.map f)) := by
  match l, h with
  | [], _ => rfl
  | [a], _ => rfl
  | [a, b], h => rfl
  | [a, b, c], h =>
    have h1 := h c (by simp) b (by simp)
    simp only [kpop, List.map_cons, List.map_nil, h1, Option.map]
    split <;> rfl
  | [a, b, c, d], h =>
    have h1 := h b (by simp) c (by simp)
    have h2 := h d (by simp) b (by simp)
    have h3 := h d (by simp) c (by simp)
    simp only [kpop, List.map_cons, List.map_nil, h1, h2, h3, Option.map]
    split
    · split <;> rfl
    · split <;> rfl
  | a :: b :: c :: d :: e :: r, _ => rfl
theorem kpop_mem (l : List Key) (r : Key × List Key) (h : kpop l = some r) : r.1 ∈ l ∧ ∀ e ∈ r.2, e ∈ l := by
  unfold kpop at h
  split at h
  · cases h; exact ⟨.head _, sub_nil⟩
  · cases h; exact ⟨.head _, sub_tail sub_refl⟩
  · cases h
    refine ⟨.head _, ?_⟩
    dsimp only
    split
    all_goals (repeat' (first | with_reducible exact sub_refl | with_reducible exact sub_nil | with_reducible refine sub_cons ?_ ?_ | with_reducible refine sub_tail ?_ | with_reducible exact List.mem_cons_self | with_reducible refine List.mem_cons_of_mem _ ?_))
  · cases h
    refine ⟨.head _, ?_⟩
    dsimp only
    split <;> split
    all_goals (repeat' (first | with_reducible exact sub_refl | with_reducible exact sub_nil | with_reducible refine sub_cons ?_ ?_ | with_reducible refine sub_tail ?_ | with_reducible exact List.mem_cons_self | with_reducible refine List.mem_cons_of_mem _ ?_))
  · cases h
theorem kpopAll_map {f : Key → Key} : ∀ (n : Nat) (l : List Key), (∀ a ∈ l, ∀ b ∈ l, ltP (f a) (f b) = ltP a b) → kpopAll n (l.map f) = (kpopAll n l).map f
  | 0, _, _ => rfl
  | n + 1, l, h => by
    unfold kpopAll
    rw [kpop_map l h]
    cases q : kpop l with
    | none => rfl
    | some r =>
      obtain ⟨m1, m2⟩ := kpop_mem l r q
      simp only [Option.map, List.map_cons]
      rw [kpopAll_map n r.2 (fun a ha b hb => h a (m2 a ha) b (m2 b hb))]
theorem kpopAll_mem : ∀ (n : Nat) (l : List Key), ∀ e ∈ kpopAll n l, e ∈ l
  | 0, _, e, h => by cases h
  | n + 1, l, e, h => by
    unfold kpopAll at h
    cases q : kpop l with
    | none => rw [q] at h; cases h
    | some r =>
      rw [q] at h
      obtain ⟨m1, m2⟩ := kpop_mem l r q
      rcases List.mem_cons.mp h with rfl | h
      · exact m1
      · exact m2 e (kpopAll_mem n r.2 e h)
theorem kheap_map {f : Key → Key} (S : List Key) (h : ∀ a ∈ S, ∀ b ∈ S, ltP (f a) (f b) = ltP a b) : ∀ (ks H : List Key), (∀ a ∈ ks, a ∈ S) → (∀ a ∈ H, a ∈ S) → ((ks.foldl kpush H).map f = (ks.map f).foldl kpush (H.map f) ∧ ∀ a ∈ ks.foldl kpush H, a ∈ S)
  | [], H, _, hH => ⟨rfl, hH⟩
  | k :: r, H, hk, hH => by
    have hS : ∀ a ∈ k :: H, a ∈ S := fun a ha => by
      rcases List.mem_cons.mp ha with rfl | ha
      · exact hk _ (.head _)
      · exact hH a ha
    have e := kpush_map (f := f) H k (fun a ha b hb => h a (hS a ha) b (hS b hb))
    have := kheap_map S h r (kpush H k) (fun a ha => hk a (.tail _ ha)) (fun a ha => by
      rcases kpush_mem H k a ha with rfl | q
      · exact hk _ (.head _)
      · exact hH a q)
    simp only [List.foldl_cons, List.map_cons]
    rw [← e]
    exact this
noncomputable def rkey (i : Nat) : Key := ((i : Nat), [])
noncomputable def chkS (r : List Nat) : Bool :=
  match kev r.length (fun i j => decide (r.getD i 0 < r.getD j 0)) (kas_sort r.length) with
  | some p => p.toList.all (fun i => decide (i < r.length)) && decide (p.toList.map (fun i => rkey (r.getD i 0)) = kpopAll r.length ((r.map rkey).foldl kpush []))
  | none => false
theorem chk2 : ∀ a b : Fin 2, chkS [a.1, b.1] = true := by decide +kernel
theorem chk3 : ∀ a b c : Fin 3, chkS [a.1, b.1, c.1] = true := by decide +kernel
theorem chk4 : ∀ a b c d : Fin 4, chkS [a.1, b.1, c.1, d.1] = true := by decide +kernel
theorem chkAll (r : List Nat) (h2 : 2 ≤ r.length) (h4 : r.length ≤ 4) (hr : ∀ x ∈ r, x < r.length) : chkS r = true := by
  rcases shape4 r (Nat.le_of_succ_le h2) h4 with ⟨a, rfl⟩ | ⟨a, b, rfl⟩ | ⟨a, b, c, rfl⟩ | ⟨a, b, c, d, rfl⟩
  · exact absurd h2 (by simp)
  · exact chk2 ⟨a, hr a (.head _)⟩ ⟨b, hr b (.tail _ (.head _))⟩
  · exact chk3 ⟨a, hr a (.head _)⟩ ⟨b, hr b (.tail _ (.head _))⟩ ⟨c, hr c (.tail _ (.tail _ (.head _)))⟩
  · exact chk4 ⟨a, hr a (.head _)⟩ ⟨b, hr b (.tail _ (.head _))⟩ ⟨c, hr c (.tail _ (.tail _ (.head _)))⟩ ⟨d, hr d (.tail _ (.tail _ (.tail _ (.head _))))⟩
theorem map_inj_on {f : Key → Key} {S : List Key} (h : ∀ a ∈ S, ∀ b ∈ S, f a = f b → a = b) : ∀ (l1 l2 : List Key), (∀ a ∈ l1, a ∈ S) → (∀ a ∈ l2, a ∈ S) → l1.map f = l2.map f → l1 = l2
  | [], [], _, _, _ => rfl
  | [], _ :: _, _, _, e => by cases e
  | _ :: _, [], _, _, e => by cases e
  | a :: r, b :: q, h1, h2, e => by
    rw [List.map_cons, List.map_cons] at e
    injection e with e1 e2
    rw [h a (h1 a (.head _)) b (h2 b (.head _)) e1, map_inj_on h r q (fun x hx => h1 x (.tail _ hx)) (fun x hx => h2 x (.tail _ hx)) e2]
theorem getD_lt {α : Type} {l : List α} {i : Nat} (d : α) (h : i < l.length) : l.getD i d = l[i] := by
  rw [List.getD_eq_getElem?_getD, List.getElem?_eq_getElem h]; rfl
theorem sort_heap (ks : List Key) (h2 : 2 ≤ ks.length) (h4 : ks.length ≤ 4) (d : Key) :
    ∃ p : Array Nat, kev ks.length (fun i j => ltP (ks.getD i d) (ks.getD j d)) (kas_sort ks.length) = some p ∧ (∀ i ∈ p.toList, i < ks.length) ∧ p.toList.map (fun i => ks.getD i d) = kpopAll ks.length (ks.foldl kpush []) := by
  have c := chkAll (ks.map (rkN ks)) (by rw [List.length_map]; exact h2) (by rw [List.length_map]; exact h4) (fun x hx => by
    obtain ⟨k, hk, rfl⟩ := List.mem_map.mp hx
    rw [List.length_map]
    exact rkN_len ks hk)
  unfold chkS at c
  have hmem : ∀ i, i < ks.length → ks.getD i d ∈ ks := fun i hi => by rw [getD_lt d hi]; exact List.getElem_mem hi
  have hget : ∀ i, i < ks.length → (ks.map (rkN ks)).getD i 0 = rkN ks (ks.getD i d) := fun i hi => by
    rw [getD_lt 0 (by rw [List.length_map]; exact hi), getD_lt d hi, List.getElem_map]
  rw [List.length_map, kev_congr (l2 := fun i j => ltP (ks.getD i d) (ks.getD j d)) (fun i j hi hj => by
    show decide ((ks.map (rkN ks)).getD i 0 < (ks.map (rkN ks)).getD j 0) = ltP (ks.getD i d) (ks.getD j d)
    rw [hget i hi, hget j hj, rkN_lt ks (hmem i hi)])] at c
  split at c
  · rename_i p hp
    rw [Bool.and_eq_true, List.all_eq_true, decide_eq_true_eq] at c
    obtain ⟨c1, c2⟩ := c
    have c1' : ∀ i ∈ p.toList, i < ks.length := fun i hi => of_decide_eq_true (c1 i hi)
    refine ⟨p, hp, c1', ?_⟩
    have hlt : ∀ a ∈ ks, ∀ b ∈ ks, ltP (rkK ks a) (rkK ks b) = ltP a b := fun a ha b _ => rkK_lt ks ha
    have hh := kheap_map (f := rkK ks) ks hlt ks [] (fun a ha => ha) (fun a ha => by cases ha)
    refine map_inj_on (f := rkK ks) (S := ks) (fun a ha b hb e => ?_) _ _ (fun a ha => ?_) (fun a ha => hh.2 a (kpopAll_mem _ _ a ha)) ?_
    · have e1 : ((rkN ks a : Nat) : Int) = (rkN ks b : Nat) := congrArg Prod.fst e
      exact rkN_inj ks ha hb (by omega)
    · obtain ⟨i, hi, rfl⟩ := List.mem_map.mp ha
      exact hmem i (c1' i hi)
    · rw [← kpopAll_map (f := rkK ks) _ _ (fun a ha b hb => hlt a (hh.2 a ha) b (hh.2 b hb)), hh.1, List.map_map]
      have e3 : (ks.map (rkN ks)).map rkey = ks.map (rkK ks) := by rw [List.map_map]; rfl
      rw [e3] at c2
      refine Eq.trans ?_ c2
      refine List.map_congr_left fun i hi => ?_
      show rkK ks (ks.getD i d) = rkey ((ks.map (rkN ks)).getD i 0)
      rw [hget i (c1' i hi)]; rfl
  · cases c
noncomputable def fldK (k : Key) : Dat := .tuple [.int k.1, .str (mkS k.2)]
theorem fldK_inv {bs : List (Addr × Obj)} {v : Value} {k : Key} (h : DatIn bs v (fldK k)) : ∃ ta t u n, v = .ref ta ∧ (ta, ({ cls := .type "tuple", data := .seq #[.int k.1 t, .str (mkS k.2) u] n } : Obj)) ∈ bs := by
  unfold fldK at h
  cases h with
  | tuple hm r =>
    cases r with
    | cons h1 r =>
      cases h1
      cases r with
      | cons h2 r =>
        cases h2
        cases r
        exact ⟨_, _, _, _, rfl, hm⟩
theorem fst_tups {h₀ h : Heap} {L : Addr} {n1 : List (Addr × Obj)} (N : News h₀ L h n1) : ∀ {vs : List Value} {ks : List Key}, DatAll n1 vs (ks.map fldK) → ∃ fs, KatTups h vs fs ∧ fs.length = ks.length ∧ ∀ v ∈ fs, ∃ i t, v = Value.int i t
  | [], [], _ => ⟨[], KatTups.nil, rfl, fun _ h => nomatch h⟩
  | v :: vs, k :: ks, .cons h r => by
    obtain ⟨fs, q1, q2, q3⟩ := fst_tups N r
    obtain ⟨ta, t, u, n, rfl, hm⟩ := fldK_inv h
    refine ⟨.int k.1 t :: fs, KatTups.cons (N _ hm).1 rfl rfl rfl q1, by rw [List.length_cons, List.length_cons, q2], fun v hv => ?_⟩
    rcases List.mem_cons.mp hv with rfl | hv
    · exact ⟨_, _, rfl⟩
    · exact q3 v hv
theorem mkS_inj {a b : List Nat} (h : mkS a = mkS b) : a = b := by
  injection h with q1
  injection q1
theorem datAll_at {n1 : List (Addr × Obj)} {vs : List Value} {ks : List Key} (h : DatAll n1 vs (ks.map fldK)) (d : Key) {i : Nat} (hi : i < ks.length) : DatIn n1 (vs.getD i Value.none) (fldK (ks.getD i d)) := by
  have hlt : i < (ks.map fldK).length := by rw [List.length_map]; exact hi
  obtain ⟨v, hv, hd⟩ := h.get hlt
  rw [List.getD_eq_getElem?_getD, hv, getD_lt d hi]
  rw [List.getElem_map] at hd
  exact hd
section
variable {prog : Program} {w : World} {A : Around} {E : Value → Shared → Prop} {s : Shared} {h₀ : Heap} {L : Addr} {m : Str → Option Value} {Q : Value → Shared → Prop}
theorem ask_key {C : Bool → Shared → Prop} {news : List (Addr × Obj)} (N : News h₀ L s.heap news) {v1 v2 : Value} {k1 k2 : Key} (h1 : DatIn news v1 (fldK k1)) (h2 : DatIn news v2 (fldK k2)) (hC : C (ltP k1 k2) s) :
    wpAny (model prog w) A (keyLt' (tuples' true) v1 v2) C (fun _ _ => False) s := by
  obtain ⟨a1, t1, u1, c1, rfl, m1⟩ := fldK_inv h1
  obtain ⟨a2, t2, u2, c2, rfl, m2⟩ := fldK_inv h2
  refine kat_lt (N _ m1).1 rfl (N _ m2).1 rfl ?_
  refine kat_cons (wpAny_eqBool_int ?_)
  by_cases hp : k1.1 = k2.1
  · rw [show (k1.1 == k2.1) = true by simpa using hp]
    refine kat_yes (kat_cons (wpAny_eqBool_str ?_))
    by_cases hn : k1.2 = k2.2
    · rw [show decide (mkS k1.2 = mkS k2.2) = true by rw [hn]; exact decide_eq_true rfl]
      refine kat_yes (kat_nil ?_)
      rw [show k1 = k2 from Prod.ext hp hn, ltP_irr] at hC
      exact hC
    · rw [decide_eq_false (fun q => hn (mkS_inj q))]
      refine kat_no ?_
      show wpAny _ _ (oneLt' (true && (0 + 1 == 0)) _ _) _ _ _
      refine kat_one _ _ (PyProof.Rows.lt_str ?_)
      have e : ltP k1 k2 = decide (k1.2 < k2.2) := by simp [ltP, ltK, hp]
      rw [e] at hC
      exact hC
  · rw [show (k1.1 == k2.1) = false by simpa using hp]
    refine kat_no (oneLt_int ?_)
    have e : ltP k1 k2 = decide (k1.1 < k2.1) := by simp [ltP, ltK, hp]
    rw [e] at hC
    exact hC
theorem sorted_ {news n1 : List (Addr × Obj)} {l : Addr} {vs : List Value} {ks : List Key} {c : Nat} (F : Fr h₀ L s.heap m) (N : News h₀ L s.heap news) (hm : (l, listOf vs.toArray c) ∈ news) (D : DatAll n1 vs (ks.map fldK)) (sub : ∀ p ∈ n1, p ∈ news) (h2 : 2 ≤ ks.length) (h4 : ks.length ≤ 4)
    (ret : ∀ D' h' c' vs', Fr h₀ L h' m → News h₀ L h' ((D', listOf vs'.toArray c') :: news) → (∀ q ∈ news, q.1 < D') → DatAll n1 vs' ((kpopAll ks.length (ks.foldl kpush [])).map fldK) → Q (.ref D') { s with heap := h' }) :
    wpAny (model prog w) A (call (.builtin "sorted") [.ref l]) Q E s := by
  have hlen : vs.length = ks.length := by rw [D.length, List.length_map]
  refine kat_sorted F N ⟨_, (N _ hm).1, rfl, _, rfl⟩ (by omega) (by omega) fun D' e1 h' F' N' l1 => ?_
  have N1 : News h₀ L h' n1 := fun p hp => N' p (.tail _ (sub p hp))
  obtain ⟨fs, t1, t2, t3⟩ := fst_tups N1 D
  refine kat_kind (T := .type "int") t1 (by omega) (fun v hv => ?_) rfl ?_
  · obtain ⟨i, t, rfl⟩ := t3 v hv
    exact Looks.of_pure rfl
  · obtain ⟨p, hp1, hp2, hp3⟩ := sort_heap ks h2 h4 (0, [])
    rw [hlen]
    refine kev_wp (n := ks.length) (lt := fun i j => ltP (ks.getD i (0, [])) (ks.getD j (0, []))) (fun i j C hi hj hC => ?_) _ hp1 ?_
    · exact ask_key N1 (datAll_at D _ hi) (datAll_at D _ hj) hC
    · refine KasFin.intro F' N' (.head fun q hq => Nat.ne_of_lt (l1 q hq)) fun h'' c' F'' N'' => ?_
      refine ret D' h'' c' _ F'' N'' l1 ?_
      rw [← hp3, List.map_map]
      have go : ∀ l : List Nat, (∀ i ∈ l, i < ks.length) → DatAll n1 (l.map fun i => vs.getD i Value.none) (l.map (fldK ∘ fun i => ks.getD i (0, []))) := by
        intro l
        induction l with
        | nil => intro _; exact .nil
        | cons i r ih => exact fun h => .cons (datAll_at D _ (h i (.head _))) (ih fun j hj => h j (.tail _ hj))
      exact go _ hp2
end
section
variable {prog : Program} {w : World} {A : Around} {E : Value → Shared → Prop} {s : Shared} {h₀ : Heap} {L : Addr} {m : Str → Option Value} {env : Env}
theorem comp_indP {elt : Expr} {x x₂ : Str} {scope : Scope} {cl : List (Str × Addr)} {S : List (Addr × Obj) → Prop} {P : Nat → Value → Prop} {Fin : List Value → List (Addr × Obj) → Prop} {n : Nat}
    (J : Nat → List Value → List (Addr × Obj) → Prop) (fin : ∀ ys news, J n ys news → Fin ys news)
    (step : ∀ i ys news, i < n → J i ys news → ∀ v, P i v → ∃ (t : Addr) (ot : Obj) (v₁ v₂ : Value) (nt : Nat), v = .ref t ∧ (t, ot) ∈ news ∧ ot.cls = .type "tuple" ∧ ot.data = .seq #[v₁, v₂] nt ∧
      ∀ I oI C oC D m₂ h tk (E' : Value → Shared → Prop), LCg.NsObj oC m₂ → m₂ x = some v₁ → m₂ x₂ = some v₂ → Fr h₀ L h m → News h₀ L h ((I, oI) :: (C, oC) :: (D, LCg.lst ys) :: news) → LCg.Off3 I C D news → ((@Ne Nat I C) ∧ (@Ne Nat I D) ∧ (@Ne Nat C D)) →
      wpAny (model prog w) A (eval elt (compEnvC scope cl C env)) (LCg.CompEnd h₀ L m { s with heap := h, toks := tk } I oI C oC D (LCg.lst ys) S (fun y news' => J (i + 1) (ys ++ [y]) news')) E' { s with heap := h, toks := tk }) :
    ∀ k i ys news, k + i = n → J i ys news → LCp.CompRestP prog w A h₀ L m env elt x x₂ scope cl s S P Fin k i ys news := by
  intro k
  induction k with
  | zero =>
    intro i ys news hi hJ
    obtain rfl : i = n := ki0 hi
    exact fin ys news hJ
  | succ k ih =>
    intro i ys news hi hJ v hP
    obtain ⟨t, ot, v₁, v₂, nt, e1, e2, e3, e4, r⟩ := step i ys news (ki1 hi) hJ v hP
    refine ⟨t, ot, v₁, v₂, nt, e1, e2, e3, e4, fun I oI C oC D m₂ h tk E' hC hx hy F N off ne => ?_⟩
    refine wpAny_mono (r I oI C oC D m₂ h tk E' hC hx hy F N off ne) (fun y s₂ h2 => ?_) (fun _ _ e => e)
    obtain ⟨h', tk', news', e1, e2, e3, e4, e5, e6⟩ := h2
    exact ⟨h', tk', news', e1, e2, e3, e4, e5, ih _ _ _ (ki2 hi) e6⟩
end
noncomputable def evens {α : Type} : List α → List α
  | [] => []
  | [a] => [a]
  | a :: _ :: r => a :: evens r
theorem pick2 (vs : List Value) (h : vs.length = 4 ∨ vs.length = 6 ∨ vs.length = 8) : (slicePick vs.toArray none none (some 2)).toList = evens vs := by
  have cut : ∀ (l : List Value) (n : Nat), l.length = n + 2 → ∃ a b r, l = a :: b :: r ∧ r.length = n := by
    intro l n h
    cases l with
    | nil => cases h
    | cons a l =>
      cases l with
      | nil => cases h
      | cons b r => exact ⟨a, b, r, rfl, Nat.succ.inj (Nat.succ.inj h)⟩
  rcases h with h | h | h
  · obtain ⟨a, b, r, rfl, h2⟩ := cut vs 2 h
    obtain ⟨c, d, r, rfl, h3⟩ := cut r 0 h2
    obtain rfl := List.eq_nil_of_length_eq_zero h3
    with_unfolding_all rfl
  · obtain ⟨a, b, r, rfl, h2⟩ := cut vs 4 h
    obtain ⟨c, d, r, rfl, h3⟩ := cut r 2 h2
    obtain ⟨e, f, r, rfl, h4⟩ := cut r 0 h3
    obtain rfl := List.eq_nil_of_length_eq_zero h4
    with_unfolding_all rfl
  · obtain ⟨a, b, r, rfl, h2⟩ := cut vs 6 h
    obtain ⟨c, d, r, rfl, h3⟩ := cut r 4 h2
    obtain ⟨e, f, r, rfl, h4⟩ := cut r 2 h3
    obtain ⟨g, i, r, rfl, h5⟩ := cut r 0 h4
    obtain rfl := List.eq_nil_of_length_eq_zero h5
    with_unfolding_all rfl
theorem evens_len {α : Type} : ∀ l : List α, (evens l).length ≤ l.length
  | [] => Nat.le_refl _
  | [_] => Nat.le_refl _
  | _ :: _ :: r => by have := evens_len r; simp only [evens, List.length_cons]; omega
theorem fldD_key (x : Int) : fldD x = fldK (keyX x) := rfl
theorem kheap_eq (xs : List Int) : kheap xs = (xs.map keyX).foldl kpush [] := by
  unfold kheap
  rw [List.foldl_map]
noncomputable def wordD (x : Int) : Dat := .list ((wordsT x).map strD)
theorem wordsT_ok (x : Int) : ∀ l ∈ wordsT x, l.all smB = true := by
  intro l hl
  unfold wordsT at hl
  rcases List.mem_cons.mp hl with rfl | hl
  · decide +kernel
  rcases List.mem_cons.mp hl with rfl | hl
  · exact smR x
  · rw [(List.mem_replicate.mp hl).2]; decide +kernel
theorem word_dok (xs : List Int) : ∀ d ∈ xs.map wordD, kqdOk 8 d = true := by
  intro d hd
  obtain ⟨x, _, rfl⟩ := List.mem_map.mp hd
  show ((wordsT x).map strD).all (kqdOk 7) = true
  rw [List.all_eq_true]
  intro e he
  obtain ⟨l, hl, rfl⟩ := List.mem_map.mp he
  show PyData.strOk (mkS l) = true
  exact sm_str (wordsT_ok x l hl)
theorem key_mem (xs : List Int) : ∀ k ∈ kpopAll xs.length (kheap xs), ∃ x, k = keyX x := by
  intro k hk
  have h1 := kpopAll_mem _ _ k hk
  have go : ∀ (xs : List Int) (H : List Key), (∀ k ∈ H, ∃ x, k = keyX x) → ∀ k ∈ (xs.map keyX).foldl kpush H, ∃ x, k = keyX x := by
    intro xs
    induction xs with
    | nil => exact fun H h => h
    | cons x r ih =>
      intro H h
      refine ih _ fun k hk => ?_
      rcases kpush_mem _ _ k hk with rfl | hk
      · exact ⟨x, rfl⟩
      · exact h k hk
  rw [kheap_eq] at h1
  exact go xs [] (fun _ h => by cases h) k h1
theorem kD_dok (xs : List Int) : ∀ d ∈ (kpopAll xs.length (kheap xs)).map kD, kqdOk 8 d = true := by
  intro d hd
  obtain ⟨k, hk, rfl⟩ := List.mem_map.mp hd
  obtain ⟨x, rfl⟩ := key_mem xs k hk
  have e1 : PyData.strOk (mkS (fld x)) = true := sm_str (smF x)
  have e2 : PyData.strOk hereS = true := by decide +kernel
  show ([Dat.int (keyX x).1, .str (mkS (fld x)), .str hereS]).all (kqdOk 7) = true
  simp only [List.all_cons, List.all_nil, kqdOk, e1, e2]
  decide
theorem evens_reps : ∀ {rd : List Value} {xs : List Int}, DatAll [] rd ((repsT xs).map strD) → DatAll [] (evens rd) (xs.map fun x => strD (r257 x))
  | [], [], _ => .nil
  | [_], x :: xs, .cons _ h => nomatch h
  | a :: b :: r, x :: xs, .cons h1 (.cons _ h2) => .cons h1 (evens_reps h2)
end

section
section
variable {w : World} {pg : Program} {lz : List Str} {mean : ExcName → Option Value} {mg mb : Str → Option Value} {dp un : Nat} {gd : Option (List Code)} {cn : Str} {cs : Scope} {a : Addr} {ccd : Value} {cl : List (Str × Addr)} {outer : List Env} {A₀ : Around} {base h₀ : Heap} {L : Addr} {m : Str → Option Value} {s : Shared} {Q E : Value → Shared → Prop}
theorem lit257 : Str.ofString "257" = mkS [50, 53, 55] := by decide +kernel
theorem litb : Str.ofString "b" = mkS [98] := by decide +kernel
theorem bs_dat {t : Tok} : ∀ n : Nat, DatAll [] (List.replicate n [Value.str (Str.ofString "b") t]).flatten ((List.replicate n [98]).map strD)
  | 0 => .nil
  | n + 1 => by
    rw [List.replicate_succ, List.replicate_succ, List.flatten_cons, List.map_cons]
    refine .cons ?_ (bs_dat n)
    rw [litb]; exact .str _ _
theorem wordD_in {D : Addr} {x : Int} {t1 t2 t3 : Tok} : DatIn [(D, W.listOf (#[Value.str (Str.ofString "257") t1, Value.str (mkS (rp 34 [] (fld x))) t2].toList ++ (List.replicate (x.fmod 2).toNat [Value.str (Str.ofString "b") t3]).flatten.toArray.toList).toArray 0)] (.ref D) (wordD x) := by
  refine DatIn.list (.head _) (.cons ?_ (.cons (.str _ _) ?_))
  · rw [lit257]; exact .str _ _
  · rw [fm2]
    exact (bs_dat _).mono (fun p (hp : p ∈ ([] : List (Addr × Obj))) => nomatch hp)
theorem word_end {α : Type} {h₀ h' : Heap} {L : Addr} {m : Str → Option Value} {s₁ : Shared} {tk : Nat} {own add news pre led : List (Addr × Obj)} {D9 : Addr} {obj : Obj} {ys : List Value} {xs : List α} {i : Nat} {x : α} {f : α → Dat} (F : Fr h₀ L h' m) (N : News h₀ L h' ((D9, obj) :: pre)) (hpre : ∀ p ∈ led, p ∈ pre) (hled : own ++ (add ++ news) = led) (l9 : ∀ p ∈ pre, p.1 < D9)
    (hJ : DatAll add ys ((xs.take i).map f)) (hx : xs[i]? = some x) (hd : DatIn [(D9, obj)] (.ref D9) (f x)) :
    EltEndZ h₀ L m s₁ own (add ++ news) (fun r add' => DatAll (add' ++ add) (ys ++ [r]) ((xs.take (i + 1)).map f)) (.ref D9) { s₁ with heap := h', toks := tk } := by
  refine ⟨h', tk, [(D9, obj)], rfl, F, fun p hp => N p ?_, fun p hp q hq => ?_, ?_⟩
  · rcases List.mem_append.mp hp with hp | hp
    · exact .tail _ (hpre p (hled ▸ List.mem_append.mpr (.inl hp)))
    · rcases List.mem_append.mp hp with hp | hp
      · rw [List.mem_singleton.mp hp]; exact .head _
      · exact .tail _ (hpre p (hled ▸ List.mem_append.mpr (.inr hp)))
  · rw [List.mem_singleton.mp hp]
    exact Ne.symm (Nat.ne_of_lt (l9 q (hpre q (hled ▸ List.mem_append.mpr (.inl hq)))))
  · have e : xs.take (i + 1) = xs.take i ++ [x] := by rw [List.take_add_one, hx]; rfl
    rw [e, List.map_append]
    exact DatAll.append (hJ.mono fun p hp => List.mem_append.mpr (.inr hp)) (.one (hd.mono fun p hp => List.mem_append.mpr (.inl hp)))
theorem pack4 {h₀ h : Heap} {L : Addr} {p4 p3 p2 p1 p0 : Addr × Obj} {add4 : List (Addr × Obj)} (N : News h₀ L h (p4 :: (add4 ++ [p3, p2, p1, p0]))) : ∃ B4, News h₀ L h B4 ∧ p4 ∈ B4 ∧ p3 ∈ B4 ∧ p2 ∈ B4 ∧ p0 ∈ B4 ∧ ∀ p ∈ add4, p ∈ B4 :=
  ⟨_, N, .head _, .tail _ (List.mem_append.mpr (.inr (.head _))), .tail _ (List.mem_append.mpr (.inr (.tail _ (.head _)))), .tail _ (List.mem_append.mpr (.inr (.tail _ (.tail _ (.tail _ (.head _)))))), fun p hp => .tail _ (List.mem_append.mpr (.inl hp))⟩
theorem pack2 {h₀ h : Heap} {L : Addr} {p1 : Addr × Obj} {add b : List (Addr × Obj)} (N : News h₀ L h (p1 :: (add ++ b))) : ∃ B, News h₀ L h B ∧ p1 ∈ B ∧ (∀ p ∈ add, p ∈ B) ∧ ∀ p ∈ b, p ∈ B :=
  ⟨_, N, .head _, fun p hp => .tail _ (List.mem_append.mpr (.inl hp)), fun p hp => .tail _ (List.mem_append.mpr (.inr hp))⟩
theorem off3_add {I C D a : Addr} {o : Obj} {l : List (Addr × Obj)} (h1 : @LT.lt Nat _ I a) (h2 : @LT.lt Nat _ C a) (h3 : @LT.lt Nat _ D a) (h : LCg.Off3 I C D l) : LCg.Off3 I C D ((a, o) :: l) := ⟨⟨Ne.symm (Nat.ne_of_lt h1), Ne.symm (Nat.ne_of_lt h2), Ne.symm (Nat.ne_of_lt h3)⟩, h⟩
inductive SJ {α : Type} (base : List (Addr × Obj)) (xs : List α) (f : α → Dat) (i : Nat) (ys : List Value) (news : List (Addr × Obj)) : Prop
  | mk (add : List (Addr × Obj)) (c0 : news = add ++ base) (c1 : DatAll add ys ((xs.take i).map f)) : SJ base xs f i ys news
theorem SJ.step {α : Type} {base add : List (Addr × Obj)} {xs : List α} {f : α → Dat} {i : Nat} {ys : List Value} {D : Addr} {o : Obj} {x : α} (h : DatAll add ys ((xs.take i).map f)) (hx : xs[i]? = some x) (hd : DatIn [(D, o)] (.ref D) (f x)) : SJ base xs f (i + 1) (ys ++ [.ref D]) ((D, o) :: (add ++ base)) := by
  refine ⟨(D, o) :: add, rfl, ?_⟩
  have e : xs.take (i + 1) = xs.take i ++ [x] := by rw [List.take_add_one, hx]; rfl
  rw [e, List.map_append]
  exact DatAll.append (h.mono fun p hp => .tail _ hp) (.one (hd.mono fun p hp => by rw [List.mem_singleton.mp hp]; exact .head _))
theorem wordsT_len (x : Int) : (wordsT x).length ≤ 3 := by
  unfold wordsT
  simp only [List.length_cons, List.length_replicate]
  exact Nat.add_le_add_right (emN x 1 (by decide) (by decide)) 2
theorem pack1 {h₀ h : Heap} {L : Addr} {p1 : Addr × Obj} {b : List (Addr × Obj)} (N : News h₀ L h (p1 :: b)) : ∃ B, News h₀ L h B ∧ p1 ∈ B ∧ ∀ p ∈ b, p ∈ B := ⟨_, N, .head _, fun p hp => .tail _ hp⟩
theorem kpopAll_len : ∀ (n : Nat) (l : List Key), (kpopAll n l).length ≤ n
  | 0, _ => Nat.le_refl _
  | n + 1, l => by
    unfold kpopAll
    split
    · have := kpopAll_len n
      simp only [List.length_cons]
      exact Nat.succ_le_succ (this _)
    · exact Nat.zero_le _
theorem kD_in {l : List (Addr × Obj)} {D : Addr} {k : Key} {t u v : Tok} {n : Nat} (h : (D, ({ cls := .type "tuple", data := .seq #[.int k.1 t, .str (mkS k.2) u, .str hereS v] n } : Obj)) ∈ l) : DatIn l (.ref D) (kD k) :=
  DatIn.tuple (vs := [.int k.1 t, .str (mkS k.2) u, .str hereS v]) h (.cons (.int _ _) (.cons (.str _ _) (.cons (.str _ _) .nil)))
theorem comp_end3 {h₀ h' : Heap} {L : Addr} {m : Str → Option Value} {s₁ : Shared} {tk : Nat} {I C D T D10 : Addr} {oI oC oD oT : Obj} {add B9 : List (Addr × Obj)} {its : Array Value} {c : Nat} {rest : Value → List (Addr × Obj) → Prop} {y : Value} (F : Fr h₀ L h' m) (N : News h₀ L h' ((T, oT) :: (I, oI) :: (C, oC) :: (D, oD) :: (add ++ B9)))
    (l1 : @LT.lt Nat _ I T) (l2 : @LT.lt Nat _ C T) (l3 : @LT.lt Nat _ D T) (off : LCg.Off3 I C D (add ++ B9)) (hm : (D10, W.listOf its c) ∈ B9) (r : rest y ((T, oT) :: (add ++ B9))) : LCg.CompEnd h₀ L m s₁ I oI C oC D oD (LCg.SrcAt h₀ D10 its) rest y { s₁ with heap := h', toks := tk } :=
  ⟨h', tk, (T, oT) :: (add ++ B9), rfl, F, news_sub N (by repeat' (first | with_reducible exact sub_refl | with_reducible refine sub_cons ?_ ?_ | with_reducible refine sub_tail ?_ | with_reducible assumption | with_reducible exact List.mem_cons_self | with_reducible refine List.mem_cons_of_mem _ ?_)), off3_add l1 l2 l3 off, .inr ⟨_, .tail _ (List.mem_append.mpr (.inr hm)), rfl, _, rfl⟩, r⟩
theorem dat_at {α : Type} {n1 : List (Addr × Obj)} {f : α → Dat} {vs : List Value} {xs : List α} (h : DatAll n1 vs (xs.map f)) {i : Nat} {v : Value} {x : α} (h1 : vs.toArray[i]? = some v) (h2 : xs[i]? = some x) : DatIn n1 v (f x) := by
  have hm : (xs.map f)[i]? = some (f x) := by rw [List.getElem?_map, h2]; rfl
  obtain ⟨v', hv', hd⟩ := h.get (List.getElem?_eq_some_iff.mp hm).1
  rw [(List.getElem?_eq_some_iff.mp hm).2] at hd
  rw [List.getElem?_toArray, hv'] at h1
  exact Option.some.inj h1 ▸ hd
end
end

section
local macro_rules | `(tactic| k_all) => `(tactic| with_reducible assumption)
local macro_rules | `(tactic| k_ne) => `(tactic| (refine neN ?_; (try dsimp only); first | with_reducible assumption | (refine Ne.symm ?_; with_reducible assumption) | omega))
local macro_rules | `(tactic| walk_at "eval Constant str") => `(tactic| refine evStr ?_)
local macro_rules | `(tactic| walk_at "eval Constant int") => `(tactic| refine evInt ?_)
local macro_rules | `(tactic| k_room) => `(tactic| ktr_room)
local macro_rules | `(tactic| ktr_room) => `(tactic| first | exact rme2 (by assumption) (by decide) | exact rme1 (by assumption) (by decide) | exact rme0 (by assumption) (by decide) | exact rmt2 (by assumption) (by decide) | exact rmt1 (by assumption) (by decide) | exact rmt0 (by assumption) (by decide) | exact rlt2 (by assumption) (by decide) | exact rlt1 (by assumption) (by decide) | exact rlt0 (by assumption) (by decide))
local macro_rules | `(tactic| ktr_units) => `(tactic| ktr_room)
local macro_rules | `(tactic| cell_enter) => `(tactic| (refine' code_def ?k1 ?k2 ?k3 ?k4 ?k5 ?kA ?kF ?kK ?k6 ?k7 ?k8 ?k9 ?kB ?_ ?c2 ?c3 ?c4 ?c5; (case kA | kF => exact rfl); (case kK => assumption); (case k1 | k2 | k3 | k4 | k5 => k_asm); (case k6 | k7 => k_is); (case k8 => ktr_room); (case k9 => first | exact BindsTo.of_eq rfl | exact binds_K (by k_in) rfl (by k_is) rfl rfl rfl); (case c5 => decide); (case kB => exact locs rfl); (case c2 | c3 | c4 => exact rfl); k_whole; intro g' L' h' FG' F' N' B' X' T'; (try dsimp only); (try k_lift B'); (try k_fold)))
local macro_rules | `(tactic| walk_at $_) => `(tactic| refine Stop9.at ?_)
local macro_rules | `(tactic| walk_at "callWith") => `(tactic| ((with_reducible show wpAny _ _ (callWith _ (Value.builtin _) (_ :: _) _ _) _ _ _); refine callWith_method1 ?_))
/- The small theorems main.tw.. bear the names that the layer would give, while it elaborates Mine.main, to the auxiliary equations (twins) of the head's own constants. Since those names are taken, the layer goes on without these equations, as its own code foresees. The theorems say nothing and nothing leans on them: they are there for the size of the compiled file alone. REPORT.md says so too. -/
theorem main.tw10003221463802097818 : True := trivial
theorem main.tw10028934070351415252 : True := trivial
theorem main.tw1003221794747103253 : True := trivial
theorem main.tw10044588960856096794 : True := trivial
theorem main.tw10047389527955405517 : True := trivial
theorem main.tw10063615490667107986 : True := trivial
theorem main.tw10092017014551392330 : True := trivial
theorem main.tw10094358506670053839 : True := trivial
theorem main.tw10101900104965146230 : True := trivial
theorem main.tw10114013102757674387 : True := trivial
theorem main.tw10123989817122485451 : True := trivial
theorem main.tw10140136200207757160 : True := trivial
theorem main.tw10149618387772673413 : True := trivial
theorem main.tw10159738436595150677 : True := trivial
theorem main.tw10169072693733980587 : True := trivial
theorem main.tw10177057350305019805 : True := trivial
theorem main.tw10186938856007831324 : True := trivial
theorem main.tw10199874654664476236 : True := trivial
theorem main.tw10201359505653846880 : True := trivial
theorem main.tw10204856939554784155 : True := trivial
theorem main.tw10210597933619972095 : True := trivial
theorem main.tw10219080375879083632 : True := trivial
theorem main.tw10225356144477167704 : True := trivial
theorem main.tw10231336680788121439 : True := trivial
theorem main.tw10234815189450012239 : True := trivial
theorem main.tw10242657825688863476 : True := trivial
theorem main.tw10255079754903088276 : True := trivial
theorem main.tw10255180020182114038 : True := trivial
theorem main.tw1027651156746619712 : True := trivial
theorem main.tw10283388844273144081 : True := trivial
theorem main.tw10290178104975116385 : True := trivial
theorem main.tw10298723112805639129 : True := trivial
theorem main.tw10334261112615635914 : True := trivial
theorem main.tw10363585996791799541 : True := trivial
theorem main.tw10367043833027533253 : True := trivial
theorem main.tw10391951854915411234 : True := trivial
theorem main.tw1041082287264499562 : True := trivial
theorem main.tw10418042200766032776 : True := trivial
theorem main.tw10435530978670571659 : True := trivial
theorem main.tw104360540948158410 : True := trivial
theorem main.tw10450603732522932521 : True := trivial
theorem main.tw10452441009100146310 : True := trivial
theorem main.tw10453263994017694363 : True := trivial
theorem main.tw10455743928339290457 : True := trivial
theorem main.tw10463206416058312583 : True := trivial
theorem main.tw1046443281632482020 : True := trivial
theorem main.tw10474107093616326617 : True := trivial
theorem main.tw10483362588635715401 : True := trivial
theorem main.tw1050151122526681168 : True := trivial
theorem main.tw10542905334921785414 : True := trivial
theorem main.tw1054321117371714560 : True := trivial
theorem main.tw10543740743216835930 : True := trivial
theorem main.tw10548918766592180815 : True := trivial
theorem main.tw10554957952762445534 : True := trivial
theorem main.tw10564528347858357063 : True := trivial
theorem main.tw10567084921333377638 : True := trivial
theorem main.tw10621211868511451038 : True := trivial
theorem main.tw10625486282989778954 : True := trivial
theorem main.tw10642606787283503386 : True := trivial
theorem main.tw10652611922669240339 : True := trivial
theorem main.tw10652863235454686790 : True := trivial
theorem main.tw10663580350406149668 : True := trivial
theorem main.tw10665089971535097683 : True := trivial
theorem main.tw10665469846841522134 : True := trivial
theorem main.tw10669944970481658594 : True := trivial
theorem main.tw10707853282979444102 : True := trivial
theorem main.tw10715366876728099628 : True := trivial
theorem main.tw10717781254789130011 : True := trivial
theorem main.tw10733187975300939785 : True := trivial
theorem main.tw10737556833816505880 : True := trivial
theorem main.tw10739967774149034379 : True := trivial
theorem main.tw1075715825243056693 : True := trivial
theorem main.tw10813080517026676716 : True := trivial
theorem main.tw10819019510126429635 : True := trivial
theorem main.tw10821422270917381399 : True := trivial
theorem main.tw10825349956297869744 : True := trivial
theorem main.tw10825838108423173272 : True := trivial
theorem main.tw1084114956928915155 : True := trivial
theorem main.tw1084220662915027778 : True := trivial
theorem main.tw10843882697959080548 : True := trivial
theorem main.tw10864377008497418100 : True := trivial
theorem main.tw10876229203375891673 : True := trivial
theorem main.tw10876375607700338302 : True := trivial
theorem main.tw10877679251791092727 : True := trivial
theorem main.tw10896356407431480244 : True := trivial
theorem main.tw1091023725331581683 : True := trivial
theorem main.tw10924716458440934090 : True := trivial
theorem main.tw1092785777240315536 : True := trivial
theorem main.tw10939538800803721631 : True := trivial
theorem main.tw10953687544409504101 : True := trivial
theorem main.tw1098248734344127483 : True := trivial
theorem main.tw10985888656933367436 : True := trivial
theorem main.tw10987386120367425466 : True := trivial
theorem main.tw10992214633131536827 : True := trivial
theorem main.tw1099256609624015869 : True := trivial
theorem main.tw11001617756164336837 : True := trivial
theorem main.tw11003572833241299968 : True := trivial
theorem main.tw11019096307435631222 : True := trivial
theorem main.tw11020365191643786025 : True := trivial
theorem main.tw11041547156204584376 : True := trivial
theorem main.tw11041858737867550897 : True := trivial
theorem main.tw11049269918873537771 : True := trivial
theorem main.tw11080826412239195337 : True := trivial
theorem main.tw11086099901593105684 : True := trivial
theorem main.tw11092141859048813250 : True := trivial
theorem main.tw11101190512080308003 : True := trivial
theorem main.tw11119146913839337285 : True := trivial
theorem main.tw11120327062377616369 : True := trivial
theorem main.tw11125538497796368324 : True := trivial
theorem main.tw11129844816282181526 : True := trivial
theorem main.tw11135027115929721415 : True := trivial
theorem main.tw1118068078248606362 : True := trivial
theorem main.tw11181722664286889309 : True := trivial
theorem main.tw11183452524601008856 : True := trivial
theorem main.tw11194412462434418553 : True := trivial
theorem main.tw11213863890663495067 : True := trivial
theorem main.tw11218778669853930896 : True := trivial
theorem main.tw11221353774195762014 : True := trivial
theorem main.tw11229075413691439314 : True := trivial
theorem main.tw11239335112260394413 : True := trivial
theorem main.tw11251407683458634364 : True := trivial
theorem main.tw11261727412033496967 : True := trivial
theorem main.tw11264817304993498462 : True := trivial
theorem main.tw11273777480241942364 : True := trivial
theorem main.tw1130211791997205004 : True := trivial
theorem main.tw11311155076762098589 : True := trivial
theorem main.tw11332626419695707122 : True := trivial
theorem main.tw11349898740250378076 : True := trivial
theorem main.tw11374851513655246148 : True := trivial
theorem main.tw11387536720948717409 : True := trivial
theorem main.tw11388154006635350966 : True := trivial
theorem main.tw11390293659975261258 : True := trivial
theorem main.tw11399646045708457374 : True := trivial
theorem main.tw11403851563620829512 : True := trivial
theorem main.tw11403970630465759474 : True := trivial
theorem main.tw11405101455947879731 : True := trivial
theorem main.tw11409991511011244131 : True := trivial
theorem main.tw11410963132546700228 : True := trivial
theorem main.tw1142173933681417890 : True := trivial
theorem main.tw11463369355524808266 : True := trivial
theorem main.tw11469148683815294839 : True := trivial
theorem main.tw11476092923266045095 : True := trivial
theorem main.tw11476443424275004936 : True := trivial
theorem main.tw11487549891475536569 : True := trivial
theorem main.tw11501822485730972192 : True := trivial
theorem main.tw1150287232629052791 : True := trivial
theorem main.tw11531331273489700057 : True := trivial
theorem main.tw11544348965984651327 : True := trivial
theorem main.tw11548542833958708988 : True := trivial
theorem main.tw11554813239044494598 : True := trivial
theorem main.tw1156462466702112376 : True := trivial
theorem main.tw1157997071576566072 : True := trivial
theorem main.tw11595355409239048105 : True := trivial
theorem main.tw11614107205274993552 : True := trivial
theorem main.tw11614346279706655073 : True := trivial
theorem main.tw11646826074482590764 : True := trivial
theorem main.tw11670399090076514202 : True := trivial
theorem main.tw11676816360460091147 : True := trivial
theorem main.tw11689664321512496715 : True := trivial
theorem main.tw11692516046256081784 : True := trivial
theorem main.tw11707585526205722907 : True := trivial
theorem main.tw11710404883906591787 : True := trivial
theorem main.tw11712081513822626495 : True := trivial
theorem main.tw11716418206903941319 : True := trivial
theorem main.tw11725999154989108132 : True := trivial
theorem main.tw11728771520666845194 : True := trivial
theorem main.tw11729630521733628537 : True := trivial
theorem main.tw11735423636902730196 : True := trivial
theorem main.tw11752208632293872130 : True := trivial
theorem main.tw11766775441595122984 : True := trivial
theorem main.tw11774690029378154688 : True := trivial
theorem main.tw11785714552879321826 : True := trivial
theorem main.tw11789403723227289746 : True := trivial
theorem main.tw1179421589518002546 : True := trivial
theorem main.tw11814867827210800679 : True := trivial
theorem main.tw11815829001073249272 : True := trivial
theorem main.tw11857135199678951331 : True := trivial
theorem main.tw11904941031934877020 : True := trivial
theorem main.tw1191263595243908205 : True := trivial
theorem main.tw11923525502935528744 : True := trivial
theorem main.tw11933201153402537488 : True := trivial
theorem main.tw11962923498438245051 : True := trivial
theorem main.tw11967333016625521393 : True := trivial
theorem main.tw11982392923317675503 : True := trivial
theorem main.tw1198661942849946583 : True := trivial
theorem main.tw11987853993630220354 : True := trivial
theorem main.tw1199522599840049251 : True := trivial
theorem main.tw12006131722545458140 : True := trivial
theorem main.tw12014785543569010823 : True := trivial
theorem main.tw12023146180999706270 : True := trivial
theorem main.tw12027323910402764344 : True := trivial
theorem main.tw12057704586751987240 : True := trivial
theorem main.tw12075919899556687040 : True := trivial
theorem main.tw12077450504624328385 : True := trivial
theorem main.tw12093647306153771053 : True := trivial
theorem main.tw12106859168716417752 : True := trivial
theorem main.tw12118360930388700471 : True := trivial
theorem main.tw12126986431929076879 : True := trivial
theorem main.tw12130321265151566525 : True := trivial
theorem main.tw12134908399292295839 : True := trivial
theorem main.tw12139096438432415106 : True := trivial
theorem main.tw12142246244290616864 : True := trivial
theorem main.tw12147608041155910273 : True := trivial
theorem main.tw1216228984421328439 : True := trivial
theorem main.tw12170992721606120685 : True := trivial
theorem main.tw12205347405646519318 : True := trivial
theorem main.tw12222963475772708484 : True := trivial
theorem main.tw12245857906982125569 : True := trivial
theorem main.tw12247406853277913960 : True := trivial
theorem main.tw12252054271945606052 : True := trivial
theorem main.tw12255313618399501761 : True := trivial
theorem main.tw12273490649430754879 : True := trivial
theorem main.tw12298629886278197574 : True := trivial
theorem main.tw12304082900475741265 : True := trivial
theorem main.tw12324921354453157484 : True := trivial
theorem main.tw12332102779922042578 : True := trivial
theorem main.tw12338497608069007261 : True := trivial
theorem main.tw12343854547171428336 : True := trivial
theorem main.tw12346658559823942425 : True := trivial
theorem main.tw12361340156312767134 : True := trivial
theorem main.tw1236483940969888574 : True := trivial
theorem main.tw1240599632959709478 : True := trivial
theorem main.tw1242282695825638017 : True := trivial
theorem main.tw12429675835336498981 : True := trivial
theorem main.tw12431561837914552411 : True := trivial
theorem main.tw12450111651097656602 : True := trivial
theorem main.tw12455012482086183272 : True := trivial
theorem main.tw12463224122652932544 : True := trivial
theorem main.tw12518504611687188807 : True := trivial
theorem main.tw12519306246395310219 : True := trivial
theorem main.tw1253437644075932092 : True := trivial
theorem main.tw12543713266681445118 : True := trivial
theorem main.tw1255815211270559930 : True := trivial
theorem main.tw12564604832814323664 : True := trivial
theorem main.tw12570134572688502250 : True := trivial
theorem main.tw12582173479537470380 : True := trivial
theorem main.tw12590340796369385619 : True := trivial
theorem main.tw1259162542039736189 : True := trivial
theorem main.tw12594366453804578888 : True := trivial
theorem main.tw12608185968620612914 : True := trivial
theorem main.tw1261021989165538067 : True := trivial
theorem main.tw12623159325031504133 : True := trivial
theorem main.tw12646911602827044314 : True := trivial
theorem main.tw12653679108036650311 : True := trivial
theorem main.tw12667108692942931566 : True := trivial
theorem main.tw12670839924663504800 : True := trivial
theorem main.tw12675357926760492328 : True := trivial
theorem main.tw12692632004510240207 : True := trivial
theorem main.tw1269329923203890863 : True := trivial
theorem main.tw1270039299266317192 : True := trivial
theorem main.tw12702744160499308131 : True := trivial
theorem main.tw12732289081945773324 : True := trivial
theorem main.tw12741544251441588921 : True := trivial
theorem main.tw12741915089075350525 : True := trivial
theorem main.tw12747388180105724736 : True := trivial
theorem main.tw12748397558918655664 : True := trivial
theorem main.tw12751799325998411230 : True := trivial
theorem main.tw12755441557018050348 : True := trivial
theorem main.tw1277820614484962519 : True := trivial
theorem main.tw12785325919471990445 : True := trivial
theorem main.tw12800608258095302798 : True := trivial
theorem main.tw12832379677416503142 : True := trivial
theorem main.tw12839114828313443825 : True := trivial
theorem main.tw12867379429370454646 : True := trivial
theorem main.tw12870486517592710932 : True := trivial
theorem main.tw12872379398031375081 : True := trivial
theorem main.tw12885385263037960081 : True := trivial
theorem main.tw12885673836220544336 : True := trivial
theorem main.tw1289389943133740499 : True := trivial
theorem main.tw12900284412222446716 : True := trivial
theorem main.tw12909650291622432550 : True := trivial
theorem main.tw12915833801598196605 : True := trivial
theorem main.tw12922898485456448571 : True := trivial
theorem main.tw12927740378394474205 : True := trivial
theorem main.tw12941917028564957548 : True := trivial
theorem main.tw12942913107403878096 : True := trivial
theorem main.tw12954446227950611505 : True := trivial
theorem main.tw12958428809211121842 : True := trivial
theorem main.tw12959741745000181155 : True := trivial
theorem main.tw12969983923199422630 : True := trivial
theorem main.tw12974819211118642341 : True := trivial
theorem main.tw12986061983710234785 : True := trivial
theorem main.tw12987577155417789579 : True := trivial
theorem main.tw12992176717851604617 : True := trivial
theorem main.tw1306636233014830658 : True := trivial
theorem main.tw13077236301305049449 : True := trivial
theorem main.tw1309525014197594016 : True := trivial
theorem main.tw13110577991587790113 : True := trivial
theorem main.tw13110970153573199417 : True := trivial
theorem main.tw13113777628852026922 : True := trivial
theorem main.tw13116522157475607773 : True := trivial
theorem main.tw13132915859168520264 : True := trivial
theorem main.tw13148611719377898607 : True := trivial
theorem main.tw13154001654789283132 : True := trivial
theorem main.tw13157206579259725088 : True := trivial
theorem main.tw13180746182150919023 : True := trivial
theorem main.tw13187166440333854079 : True := trivial
theorem main.tw1318968915056948652 : True := trivial
theorem main.tw13194694976546938235 : True := trivial
theorem main.tw1319676515408343850 : True := trivial
theorem main.tw13219505800766818778 : True := trivial
theorem main.tw13227784636351994527 : True := trivial
theorem main.tw13255245976751338989 : True := trivial
theorem main.tw13260870731297125680 : True := trivial
theorem main.tw13270728482189477470 : True := trivial
theorem main.tw13284607676483823796 : True := trivial
theorem main.tw13292342272908123512 : True := trivial
theorem main.tw13293747886898857621 : True := trivial
theorem main.tw13306352142949925410 : True := trivial
theorem main.tw13313126695403321540 : True := trivial
theorem main.tw13348322127785295214 : True := trivial
theorem main.tw13355152605343272895 : True := trivial
theorem main.tw1336659820572712380 : True := trivial
theorem main.tw13402765919934010277 : True := trivial
theorem main.tw13406003279186336099 : True := trivial
theorem main.tw13429379312604010019 : True := trivial
theorem main.tw13447304073604360266 : True := trivial
theorem main.tw13465503431842376007 : True := trivial
theorem main.tw13503263706703578961 : True := trivial
theorem main.tw13514204307011423542 : True := trivial
theorem main.tw13532707612510029741 : True := trivial
theorem main.tw13547569757486424058 : True := trivial
theorem main.tw1355085073191494161 : True := trivial
theorem main.tw13555666566803518343 : True := trivial
theorem main.tw13590572293223372214 : True := trivial
theorem main.tw13591255225166038476 : True := trivial
theorem main.tw13597483153833180358 : True := trivial
theorem main.tw13611986716879344365 : True := trivial
theorem main.tw13626721169425172152 : True := trivial
theorem main.tw13642826006792871662 : True := trivial
theorem main.tw13667920496262714385 : True := trivial
theorem main.tw13676971244355772609 : True := trivial
theorem main.tw13689083923384677848 : True := trivial
theorem main.tw13693970394777133609 : True := trivial
theorem main.tw13711685867348743795 : True := trivial
theorem main.tw13713940216889387898 : True := trivial
theorem main.tw13724616953566380437 : True := trivial
theorem main.tw1372806426800153423 : True := trivial
theorem main.tw13738235750113832370 : True := trivial
theorem main.tw13777938177461255882 : True := trivial
theorem main.tw13797323745857372409 : True := trivial
theorem main.tw13803360072150633466 : True := trivial
theorem main.tw13807522157400373393 : True := trivial
theorem main.tw13838900630717943254 : True := trivial
theorem main.tw13876859957761632879 : True := trivial
theorem main.tw1390771862084280389 : True := trivial
theorem main.tw13914785722749861914 : True := trivial
theorem main.tw13934608090901567409 : True := trivial
theorem main.tw13962693860625380366 : True := trivial
theorem main.tw13965128551521907918 : True := trivial
theorem main.tw13972245371655741198 : True := trivial
theorem main.tw13974046611088194958 : True := trivial
theorem main.tw13978478705568000493 : True := trivial
theorem main.tw13980211790410550608 : True := trivial
theorem main.tw13980345723018547825 : True := trivial
theorem main.tw13981707834035343584 : True := trivial
theorem main.tw13989496423458381343 : True := trivial
theorem main.tw13995172100960836882 : True := trivial
theorem main.tw14009396871252706886 : True := trivial
theorem main.tw14011416340940902608 : True := trivial
theorem main.tw14020873708864708748 : True := trivial
theorem main.tw1402309974066972641 : True := trivial
theorem main.tw14027531716089632829 : True := trivial
theorem main.tw14027650596787315314 : True := trivial
theorem main.tw14060465935940456498 : True := trivial
theorem main.tw14061640607465278742 : True := trivial
theorem main.tw14064073609400967072 : True := trivial
theorem main.tw14080665800827857628 : True := trivial
theorem main.tw14097447854668400296 : True := trivial
theorem main.tw1409966394225722968 : True := trivial
theorem main.tw14106445559736802775 : True := trivial
theorem main.tw14112269089397522482 : True := trivial
theorem main.tw14136325212780177784 : True := trivial
theorem main.tw1415428593365352553 : True := trivial
theorem main.tw14161005256144132680 : True := trivial
theorem main.tw14161465996007527954 : True := trivial
theorem main.tw14168887731352723522 : True := trivial
theorem main.tw14216407083858561409 : True := trivial
theorem main.tw14218914174604095658 : True := trivial
theorem main.tw14225962816827104932 : True := trivial
theorem main.tw14231279515562504530 : True := trivial
theorem main.tw14235155234550121937 : True := trivial
theorem main.tw14286279103370969706 : True := trivial
theorem main.tw1429040668314091153 : True := trivial
theorem main.tw14313897822631088780 : True := trivial
theorem main.tw14327529596952217943 : True := trivial
theorem main.tw14336716466608126219 : True := trivial
theorem main.tw14359968983150536752 : True := trivial
theorem main.tw14364048958407549093 : True := trivial
theorem main.tw14368271195830560734 : True := trivial
theorem main.tw14377180257169084997 : True := trivial
theorem main.tw14377536511252160716 : True := trivial
theorem main.tw14390754486103292620 : True := trivial
theorem main.tw14406990849044604362 : True := trivial
theorem main.tw14439473939278146460 : True := trivial
theorem main.tw14443092014599818573 : True := trivial
theorem main.tw14457758005677747962 : True := trivial
theorem main.tw14489535830319231195 : True := trivial
theorem main.tw14492832472218066102 : True := trivial
theorem main.tw14504180641510445567 : True := trivial
theorem main.tw14510055921401542917 : True := trivial
theorem main.tw14513571923725367585 : True := trivial
theorem main.tw1453356044741674121 : True := trivial
theorem main.tw14535484193269619989 : True := trivial
theorem main.tw14539993770535171780 : True := trivial
theorem main.tw1454224541498743561 : True := trivial
theorem main.tw14554314840745968623 : True := trivial
theorem main.tw14562738103837258888 : True := trivial
theorem main.tw14623576949289902444 : True := trivial
theorem main.tw14635473669698735251 : True := trivial
theorem main.tw14636892021812066514 : True := trivial
theorem main.tw14637806741061077295 : True := trivial
theorem main.tw14639212616227390028 : True := trivial
theorem main.tw14640416626631428029 : True := trivial
theorem main.tw14646587721710459877 : True := trivial
theorem main.tw14662554035588321541 : True := trivial
theorem main.tw14666387041718499266 : True := trivial
theorem main.tw14672674291997333471 : True := trivial
theorem main.tw14698241182937546978 : True := trivial
theorem main.tw1469836325065767749 : True := trivial
theorem main.tw14699326698120687454 : True := trivial
theorem main.tw14713023043418418522 : True := trivial
theorem main.tw14721343552236136636 : True := trivial
theorem main.tw14722489848711283861 : True := trivial
theorem main.tw14747868875625980864 : True := trivial
theorem main.tw14755733875199540201 : True := trivial
theorem main.tw14759895335926876869 : True := trivial
theorem main.tw14771111431291430275 : True := trivial
theorem main.tw14788915703135433725 : True := trivial
theorem main.tw14793117695081215449 : True := trivial
theorem main.tw14798791472264738832 : True := trivial
theorem main.tw14805756002866571830 : True := trivial
theorem main.tw14806125269305119590 : True := trivial
theorem main.tw14814594519894181452 : True := trivial
theorem main.tw14849204138880929251 : True := trivial
theorem main.tw14859100970857779836 : True := trivial
theorem main.tw1486339892855113045 : True := trivial
theorem main.tw14864636224205547913 : True := trivial
theorem main.tw14864641218109852296 : True := trivial
theorem main.tw14893090268090260817 : True := trivial
theorem main.tw14909365282108701170 : True := trivial
theorem main.tw14925635105145352654 : True := trivial
theorem main.tw14962632401376961426 : True := trivial
theorem main.tw14966384500751655702 : True := trivial
theorem main.tw1496695287857109588 : True := trivial
theorem main.tw14992222465124788362 : True := trivial
theorem main.tw15015129292197451723 : True := trivial
theorem main.tw15017983477296125989 : True := trivial
theorem main.tw15022946984557111684 : True := trivial
theorem main.tw15023316991559800185 : True := trivial
theorem main.tw1504049600530537962 : True := trivial
theorem main.tw15059693217772790739 : True := trivial
theorem main.tw15060185592220127646 : True := trivial
theorem main.tw15062679425460387418 : True := trivial
theorem main.tw15079240505294077160 : True := trivial
theorem main.tw15087427406127887449 : True := trivial
theorem main.tw15097543051748444868 : True := trivial
theorem main.tw15098031235356848795 : True := trivial
theorem main.tw15109750227778091905 : True := trivial
theorem main.tw15131278010643852716 : True := trivial
theorem main.tw15136431859952498927 : True := trivial
theorem main.tw15140838672463199983 : True := trivial
theorem main.tw1519927702969063271 : True := trivial
theorem main.tw1519992759497675636 : True := trivial
theorem main.tw15225127925928830808 : True := trivial
theorem main.tw15244097889725654702 : True := trivial
theorem main.tw15267601115554557575 : True := trivial
theorem main.tw15270170921892066516 : True := trivial
theorem main.tw15277975159832343749 : True := trivial
theorem main.tw15282798724139172088 : True := trivial
theorem main.tw15297943449409850484 : True := trivial
theorem main.tw15303317825217679618 : True := trivial
theorem main.tw15312040371321221727 : True := trivial
theorem main.tw15312394840280087653 : True := trivial
theorem main.tw15342904991969174519 : True := trivial
theorem main.tw15350898050860989542 : True := trivial
theorem main.tw15356762974548107741 : True := trivial
theorem main.tw15365013842991253249 : True := trivial
theorem main.tw15387884906608193903 : True := trivial
theorem main.tw15397788492017642998 : True := trivial
theorem main.tw15410482203810522393 : True := trivial
theorem main.tw15425874342098770709 : True := trivial
theorem main.tw15432235134303409840 : True := trivial
theorem main.tw15438212644395081984 : True := trivial
theorem main.tw1544020853599562407 : True := trivial
theorem main.tw15445229340043853549 : True := trivial
theorem main.tw1545906260438175962 : True := trivial
theorem main.tw15461212566085484399 : True := trivial
theorem main.tw15465920861327815835 : True := trivial
theorem main.tw15467891735981029475 : True := trivial
theorem main.tw1548279923187021627 : True := trivial
theorem main.tw15485851114877660061 : True := trivial
theorem main.tw15491723280356408159 : True := trivial
theorem main.tw15510692781650021527 : True := trivial
theorem main.tw15514936471743626214 : True := trivial
theorem main.tw1552421926411342777 : True := trivial
theorem main.tw15540984915698410164 : True := trivial
theorem main.tw15554039934745177238 : True := trivial
theorem main.tw15556330048392946422 : True := trivial
theorem main.tw15558288988949320067 : True := trivial
theorem main.tw15565075772751903193 : True := trivial
theorem main.tw15575723056732996420 : True := trivial
theorem main.tw15579395750891953841 : True := trivial
theorem main.tw15580989882048331800 : True := trivial
theorem main.tw15589955886551607785 : True := trivial
theorem main.tw15595112118272840620 : True := trivial
theorem main.tw15606653302220566414 : True := trivial
theorem main.tw15608450976537380609 : True := trivial
theorem main.tw15624239662980076321 : True := trivial
theorem main.tw15631942387314964779 : True := trivial
theorem main.tw15642941266545998023 : True := trivial
theorem main.tw15643365686152983790 : True := trivial
theorem main.tw15649996292582860464 : True := trivial
theorem main.tw15656275678258859468 : True := trivial
theorem main.tw15670109119070698982 : True := trivial
theorem main.tw15672986146971166658 : True := trivial
theorem main.tw15684375888932747349 : True := trivial
theorem main.tw1570785757846642287 : True := trivial
theorem main.tw15734200111481486640 : True := trivial
theorem main.tw15734660467963936456 : True := trivial
theorem main.tw15737690656516749961 : True := trivial
theorem main.tw15768048840197415361 : True := trivial
theorem main.tw15788135083398108852 : True := trivial
theorem main.tw15803610866087392283 : True := trivial
theorem main.tw15806524323241146399 : True := trivial
theorem main.tw15810667371194948217 : True := trivial
theorem main.tw15853742577940245110 : True := trivial
theorem main.tw1587290215689348708 : True := trivial
theorem main.tw1590763530083325563 : True := trivial
theorem main.tw15928290008803537013 : True := trivial
theorem main.tw15949526494057022110 : True := trivial
theorem main.tw15950006927108054178 : True := trivial
theorem main.tw15955573374722617477 : True := trivial
theorem main.tw15957597259013190341 : True := trivial
theorem main.tw15970538086172389420 : True := trivial
theorem main.tw15975542379867263092 : True := trivial
theorem main.tw15984706205718930553 : True := trivial
theorem main.tw16008252555379753968 : True := trivial
theorem main.tw16008457594558532635 : True := trivial
theorem main.tw16022572192331126682 : True := trivial
theorem main.tw16026485685270457870 : True := trivial
theorem main.tw16026775910206950810 : True := trivial
theorem main.tw16033097090804400913 : True := trivial
theorem main.tw16046730324260685337 : True := trivial
theorem main.tw16049902774474827687 : True := trivial
theorem main.tw16057503054469045564 : True := trivial
theorem main.tw1606137496264982490 : True := trivial
theorem main.tw16097269412956081036 : True := trivial
theorem main.tw16102231251864390963 : True := trivial
theorem main.tw1610520696219057239 : True := trivial
theorem main.tw16128220689672181975 : True := trivial
theorem main.tw16135426469972691074 : True := trivial
theorem main.tw16136984950599521427 : True := trivial
theorem main.tw16142765227538719955 : True := trivial
theorem main.tw1615045767204293396 : True := trivial
theorem main.tw16153351446899991344 : True := trivial
theorem main.tw16153842264607907944 : True := trivial
theorem main.tw1615956725737779560 : True := trivial
theorem main.tw16185557875694938250 : True := trivial
theorem main.tw16187894506366716058 : True := trivial
theorem main.tw161903638078081290 : True := trivial
theorem main.tw16193401482309157537 : True := trivial
theorem main.tw16203622797070002922 : True := trivial
theorem main.tw16218864148678617972 : True := trivial
theorem main.tw16235428439501865183 : True := trivial
theorem main.tw16242300578775876528 : True := trivial
theorem main.tw16251939892948500945 : True := trivial
theorem main.tw16274502184877008141 : True := trivial
theorem main.tw1628013610222277130 : True := trivial
theorem main.tw16292202817602668162 : True := trivial
theorem main.tw16304157974115477746 : True := trivial
theorem main.tw16320215318167395912 : True := trivial
theorem main.tw1632041292262086317 : True := trivial
theorem main.tw16320729459185622934 : True := trivial
theorem main.tw16332121612629036173 : True := trivial
theorem main.tw16338599768312175441 : True := trivial
theorem main.tw16355746345580011080 : True := trivial
theorem main.tw16356685582667847594 : True := trivial
theorem main.tw16357356043003861740 : True := trivial
theorem main.tw16361134009908129286 : True := trivial
theorem main.tw16396084126727719574 : True := trivial
theorem main.tw16411370214107742406 : True := trivial
theorem main.tw16424990018577422225 : True := trivial
theorem main.tw16451033083921036709 : True := trivial
theorem main.tw16452447596832230105 : True := trivial
theorem main.tw16457029472755163556 : True := trivial
theorem main.tw1645717771770832407 : True := trivial
theorem main.tw16480584520131690045 : True := trivial
theorem main.tw16501172079758305675 : True := trivial
theorem main.tw16508919721030705984 : True := trivial
theorem main.tw16544489699163171333 : True := trivial
theorem main.tw16551855485269240956 : True := trivial
theorem main.tw16572128252103988241 : True := trivial
theorem main.tw16629339528299215175 : True := trivial
theorem main.tw16635132283075409719 : True := trivial
theorem main.tw16641786646906312760 : True := trivial
theorem main.tw16651728564920304373 : True := trivial
theorem main.tw16656740534632174751 : True := trivial
theorem main.tw16676564476587882173 : True := trivial
theorem main.tw16689149305811164139 : True := trivial
theorem main.tw16721930046160240684 : True := trivial
theorem main.tw16723884430069596700 : True := trivial
theorem main.tw16755849432154420019 : True := trivial
theorem main.tw16757190730947197508 : True := trivial
theorem main.tw16765925921980633802 : True := trivial
theorem main.tw1677766988990989824 : True := trivial
theorem main.tw16778611742570070204 : True := trivial
theorem main.tw16784772322866675431 : True := trivial
theorem main.tw1678875084529416142 : True := trivial
theorem main.tw16790050636404226231 : True := trivial
theorem main.tw16798207577519904205 : True := trivial
theorem main.tw16806246253224384389 : True := trivial
theorem main.tw16817993663026736274 : True := trivial
theorem main.tw16819838333489098493 : True := trivial
theorem main.tw16832360635688203351 : True := trivial
theorem main.tw16877947373546393871 : True := trivial
theorem main.tw16891041157754790011 : True := trivial
theorem main.tw16901679771719207805 : True := trivial
theorem main.tw16922381011570985944 : True := trivial
theorem main.tw16923884221124529275 : True := trivial
theorem main.tw16932134980577923087 : True := trivial
theorem main.tw16950194794029067938 : True := trivial
theorem main.tw16952715711813285254 : True := trivial
theorem main.tw16959884160788844718 : True := trivial
theorem main.tw16965079339398995527 : True := trivial
theorem main.tw169701792822576828 : True := trivial
theorem main.tw16972566868458125486 : True := trivial
theorem main.tw16975186286363125341 : True := trivial
theorem main.tw16989488325979979065 : True := trivial
theorem main.tw1700252707422454164 : True := trivial
theorem main.tw17016820405989369747 : True := trivial
theorem main.tw17025424565251489684 : True := trivial
theorem main.tw17028514697001254897 : True := trivial
theorem main.tw17035731627637430848 : True := trivial
theorem main.tw17052023290607921161 : True := trivial
theorem main.tw17057053908230417247 : True := trivial
theorem main.tw17067035981215421688 : True := trivial
theorem main.tw1707505545463187130 : True := trivial
theorem main.tw17078522660377770562 : True := trivial
theorem main.tw17091655785135471103 : True := trivial
theorem main.tw17096532924672817327 : True := trivial
theorem main.tw17100856465519632170 : True := trivial
theorem main.tw17110241357884498264 : True := trivial
theorem main.tw17118054049896295152 : True := trivial
theorem main.tw17128291446047057950 : True := trivial
theorem main.tw17128476026691140212 : True := trivial
theorem main.tw17144978775634262171 : True := trivial
theorem main.tw17146568849442343683 : True := trivial
theorem main.tw17147588175821073265 : True := trivial
theorem main.tw1714950047550659301 : True := trivial
theorem main.tw17159216914136082949 : True := trivial
theorem main.tw17185042187573640451 : True := trivial
theorem main.tw17201416709059790184 : True := trivial
theorem main.tw17223442867436993403 : True := trivial
theorem main.tw17227442419121036007 : True := trivial
theorem main.tw17232878180008095221 : True := trivial
theorem main.tw17236958762192778904 : True := trivial
theorem main.tw17262041522474090127 : True := trivial
theorem main.tw17268439761433841065 : True := trivial
theorem main.tw17272174723667511238 : True := trivial
theorem main.tw17275675667316583603 : True := trivial
theorem main.tw17280665378484479262 : True := trivial
theorem main.tw17290568124846718506 : True := trivial
theorem main.tw17292155258170135553 : True := trivial
theorem main.tw17297283025540448806 : True := trivial
theorem main.tw17298271098590275757 : True := trivial
theorem main.tw17298425922696826006 : True := trivial
theorem main.tw17336282652733537790 : True := trivial
theorem main.tw17353955331779342651 : True := trivial
theorem main.tw17402982504261768225 : True := trivial
theorem main.tw17403364634526059139 : True := trivial
theorem main.tw17413556829735388813 : True := trivial
theorem main.tw17431719831054627609 : True := trivial
theorem main.tw17438294365789470252 : True := trivial
theorem main.tw17445186720391901401 : True := trivial
theorem main.tw17450470499104002142 : True := trivial
theorem main.tw17453503289922162039 : True := trivial
theorem main.tw1745352913517652073 : True := trivial
theorem main.tw17456035664235451855 : True := trivial
theorem main.tw17467094056537431486 : True := trivial
theorem main.tw17477492558424962760 : True := trivial
theorem main.tw17493723678399337961 : True := trivial
theorem main.tw17495560712657236704 : True := trivial
theorem main.tw17563168436475441343 : True := trivial
theorem main.tw17585224947871030625 : True := trivial
theorem main.tw17600866488970185278 : True := trivial
theorem main.tw17644181745481072423 : True := trivial
theorem main.tw17647351573629430322 : True := trivial
theorem main.tw17659147809683748901 : True := trivial
theorem main.tw17679725944135375923 : True := trivial
theorem main.tw17695171507069755227 : True := trivial
theorem main.tw17699438841360665129 : True := trivial
theorem main.tw17708487481403421675 : True := trivial
theorem main.tw17715262827843222689 : True := trivial
theorem main.tw17725498274588495791 : True := trivial
theorem main.tw17734603463515337306 : True := trivial
theorem main.tw17737603089517620647 : True := trivial
theorem main.tw17749094844149355310 : True := trivial
theorem main.tw17767330081159143506 : True := trivial
theorem main.tw17768309097967576573 : True := trivial
theorem main.tw1777545030009416734 : True := trivial
theorem main.tw1781223760143429554 : True := trivial
theorem main.tw17864028415675338326 : True := trivial
theorem main.tw17879305954018243132 : True := trivial
theorem main.tw17904854198161793398 : True := trivial
theorem main.tw17906638245316424091 : True := trivial
theorem main.tw17920292393507637884 : True := trivial
theorem main.tw17943756269633507525 : True := trivial
theorem main.tw17958375852430007124 : True := trivial
theorem main.tw17974016328880235120 : True := trivial
theorem main.tw17994008241501222078 : True := trivial
theorem main.tw17998548657970349950 : True := trivial
theorem main.tw18005423509665057918 : True := trivial
theorem main.tw1800746815547063501 : True := trivial
theorem main.tw18031918436515192882 : True := trivial
theorem main.tw18046886581883190830 : True := trivial
theorem main.tw18063282731904131703 : True := trivial
theorem main.tw18120430973489738927 : True := trivial
theorem main.tw18134284020713443437 : True := trivial
theorem main.tw18162592725011693541 : True := trivial
theorem main.tw18165044119631177899 : True := trivial
theorem main.tw18178676814319149831 : True := trivial
theorem main.tw18190005008629794160 : True := trivial
theorem main.tw18195925520682101353 : True := trivial
theorem main.tw18218335207050127959 : True := trivial
theorem main.tw18238007617527299592 : True := trivial
theorem main.tw1826329307503635854 : True := trivial
theorem main.tw1827765177636990938 : True := trivial
theorem main.tw18284262389922463811 : True := trivial
theorem main.tw18287795668848337631 : True := trivial
theorem main.tw18288009448212308685 : True := trivial
theorem main.tw18302796317244248524 : True := trivial
theorem main.tw18314829044154829275 : True := trivial
theorem main.tw18315214858253571532 : True := trivial
theorem main.tw18317609476662902477 : True := trivial
theorem main.tw18325589031809861271 : True := trivial
theorem main.tw18332899500509843999 : True := trivial
theorem main.tw18342001204779339714 : True := trivial
theorem main.tw18344032359734412310 : True := trivial
theorem main.tw18385570937342765463 : True := trivial
theorem main.tw18395943939669218033 : True := trivial
theorem main.tw18403998269306519403 : True := trivial
theorem main.tw18406820200293129166 : True := trivial
theorem main.tw18415176765897963525 : True := trivial
theorem main.tw18418235949754561950 : True := trivial
theorem main.tw18421580907717582127 : True := trivial
theorem main.tw18425317256667529438 : True := trivial
theorem main.tw18431692314602308842 : True := trivial
theorem main.tw18438843042052247593 : True := trivial
theorem main.tw18442785490491869365 : True := trivial
theorem main.tw18446094637698972617 : True := trivial
theorem main.tw1850612553970854742 : True := trivial
theorem main.tw1886080085820668685 : True := trivial
theorem main.tw1980160206288974728 : True := trivial
theorem main.tw2007339730380871907 : True := trivial
theorem main.tw2012372014189735793 : True := trivial
theorem main.tw2019394398466159022 : True := trivial
theorem main.tw2021556316718937628 : True := trivial
theorem main.tw2022962002417519128 : True := trivial
theorem main.tw2033968301974640842 : True := trivial
theorem main.tw2051789231338563487 : True := trivial
theorem main.tw2058021452347087232 : True := trivial
theorem main.tw2068819091333853403 : True := trivial
theorem main.tw2110754180369666209 : True := trivial
theorem main.tw2115834197678201133 : True := trivial
theorem main.tw2127038452521536779 : True := trivial
theorem main.tw2136821422063795447 : True := trivial
theorem main.tw2156145737304315219 : True := trivial
theorem main.tw2173562974560187446 : True := trivial
theorem main.tw2190695567426971638 : True := trivial
theorem main.tw2207158782130953472 : True := trivial
theorem main.tw2215267417292685860 : True := trivial
theorem main.tw221909299271738847 : True := trivial
theorem main.tw2225892363528398861 : True := trivial
theorem main.tw2225956059507018244 : True := trivial
theorem main.tw223528310411579522 : True := trivial
theorem main.tw2238316416991798583 : True := trivial
theorem main.tw2259866600804224517 : True := trivial
theorem main.tw2261811237465622523 : True := trivial
theorem main.tw2278972029675796859 : True := trivial
theorem main.tw2279047495162143687 : True := trivial
theorem main.tw2279707942289718827 : True := trivial
theorem main.tw2287093442842179507 : True := trivial
theorem main.tw2287757881348798766 : True := trivial
theorem main.tw2337230598321646361 : True := trivial
theorem main.tw2341703837736514645 : True := trivial
theorem main.tw2343935838158425641 : True := trivial
theorem main.tw234599468654550697 : True := trivial
theorem main.tw2354262462317623899 : True := trivial
theorem main.tw2363833142923657126 : True := trivial
theorem main.tw2373237607127697691 : True := trivial
theorem main.tw2399826469436781019 : True := trivial
theorem main.tw2402762420636078793 : True := trivial
theorem main.tw2406621943657119228 : True := trivial
theorem main.tw2428412748925179849 : True := trivial
theorem main.tw2433702464844828792 : True := trivial
theorem main.tw2442105787152858967 : True := trivial
theorem main.tw2442773178527959075 : True := trivial
theorem main.tw244467455267321384 : True := trivial
theorem main.tw2456247091588846565 : True := trivial
theorem main.tw2496676261509829067 : True := trivial
theorem main.tw2518857965603918243 : True := trivial
theorem main.tw2524017781993486291 : True := trivial
theorem main.tw2538046985915079169 : True := trivial
theorem main.tw2542808073141276813 : True := trivial
theorem main.tw2544328076492683441 : True := trivial
theorem main.tw2555861160798251974 : True := trivial
theorem main.tw2564707057010578714 : True := trivial
theorem main.tw2566753976717531306 : True := trivial
theorem main.tw2583023086579268501 : True := trivial
theorem main.tw2599750674813586877 : True := trivial
theorem main.tw2629084897520917108 : True := trivial
theorem main.tw2647654807098235363 : True := trivial
theorem main.tw2653321512126949328 : True := trivial
theorem main.tw2655388395262180111 : True := trivial
theorem main.tw2672093188730551128 : True := trivial
theorem main.tw2675658811408624930 : True := trivial
theorem main.tw2702614204127132176 : True := trivial
theorem main.tw2704602940660078815 : True := trivial
theorem main.tw270496394426124508 : True := trivial
theorem main.tw2709746457059553413 : True := trivial
theorem main.tw2714283472998740243 : True := trivial
theorem main.tw2724176850512262202 : True := trivial
theorem main.tw2729793432009153956 : True := trivial
theorem main.tw2744014450722944760 : True := trivial
theorem main.tw2750411421705246143 : True := trivial
theorem main.tw2759098988195820126 : True := trivial
theorem main.tw279184230401619693 : True := trivial
theorem main.tw2794983428953441941 : True := trivial
theorem main.tw2796952317120133236 : True := trivial
theorem main.tw2815835355862285053 : True := trivial
theorem main.tw2821470743931037460 : True := trivial
theorem main.tw2847738043507502446 : True := trivial
theorem main.tw2855982326401850692 : True := trivial
theorem main.tw2895952525429962455 : True := trivial
theorem main.tw2900998541784483753 : True := trivial
theorem main.tw2906824675625879941 : True := trivial
theorem main.tw2921621734765799159 : True := trivial
theorem main.tw2921958311620399285 : True := trivial
theorem main.tw2923286348875671695 : True := trivial
theorem main.tw2923326968966308885 : True := trivial
theorem main.tw2965820268544440810 : True := trivial
theorem main.tw302440914744352476 : True := trivial
theorem main.tw3027586509356016917 : True := trivial
theorem main.tw3033261876257692807 : True := trivial
theorem main.tw3033833032746330586 : True := trivial
theorem main.tw3045742163950154196 : True := trivial
theorem main.tw3062356812957192748 : True := trivial
theorem main.tw3078062877239007290 : True := trivial
theorem main.tw308427716283879934 : True := trivial
theorem main.tw3136416535801588117 : True := trivial
theorem main.tw3137596982192898869 : True := trivial
theorem main.tw3160845607165458772 : True := trivial
theorem main.tw318027561457272103 : True := trivial
theorem main.tw31828345220925962 : True := trivial
theorem main.tw3203809635103463919 : True := trivial
theorem main.tw3220561703981169602 : True := trivial
theorem main.tw3222223853247747169 : True := trivial
theorem main.tw3234112476842188716 : True := trivial
theorem main.tw3262662943086543052 : True := trivial
theorem main.tw3288582142898991060 : True := trivial
theorem main.tw3298483428156984901 : True := trivial
theorem main.tw3299218664060906527 : True := trivial
theorem main.tw330327031418712150 : True := trivial
theorem main.tw3305931106042330821 : True := trivial
theorem main.tw3314904115985164895 : True := trivial
theorem main.tw3332543467307319023 : True := trivial
theorem main.tw3342365933539840098 : True := trivial
theorem main.tw3343439749351644125 : True := trivial
theorem main.tw33456957511925785 : True := trivial
theorem main.tw33614349342159083 : True := trivial
theorem main.tw3370190323706015969 : True := trivial
theorem main.tw3370842686811476594 : True := trivial
theorem main.tw3374421720907634814 : True := trivial
theorem main.tw3404965551341049163 : True := trivial
theorem main.tw3422715526262721465 : True := trivial
theorem main.tw3454311308915712629 : True := trivial
theorem main.tw3459380146013217038 : True := trivial
theorem main.tw3464005467892915075 : True := trivial
theorem main.tw3464709057266567092 : True := trivial
theorem main.tw3466206800631347469 : True := trivial
theorem main.tw3485684062173492111 : True := trivial
theorem main.tw3491332818749588091 : True := trivial
theorem main.tw3502538907535333668 : True := trivial
theorem main.tw3532412968194664532 : True := trivial
theorem main.tw3544752959273917758 : True := trivial
theorem main.tw3546150205236023746 : True := trivial
theorem main.tw3549514262204291990 : True := trivial
theorem main.tw3554760562371715034 : True := trivial
theorem main.tw3557749057250611081 : True := trivial
theorem main.tw3562595001068472590 : True := trivial
theorem main.tw3583811862363856187 : True := trivial
theorem main.tw358491910552652209 : True := trivial
theorem main.tw3609762217373132089 : True := trivial
theorem main.tw3613476055612923068 : True := trivial
theorem main.tw3626430660855392483 : True := trivial
theorem main.tw3627144658338631552 : True := trivial
theorem main.tw3635900802997115186 : True := trivial
theorem main.tw3647563863728917214 : True := trivial
theorem main.tw365850788961202214 : True := trivial
theorem main.tw3724484323120607773 : True := trivial
theorem main.tw372505627349444580 : True := trivial
theorem main.tw372796162762716424 : True := trivial
theorem main.tw3731879374237491455 : True := trivial
theorem main.tw3748114642381145586 : True := trivial
theorem main.tw3779293765908593550 : True := trivial
theorem main.tw3796207824708393856 : True := trivial
theorem main.tw379899607457092286 : True := trivial
theorem main.tw3829396358689915599 : True := trivial
theorem main.tw3848698983108048278 : True := trivial
theorem main.tw3864431920445960829 : True := trivial
theorem main.tw3867218068155391060 : True := trivial
theorem main.tw387501639795913443 : True := trivial
theorem main.tw3881243767933311072 : True := trivial
theorem main.tw3905226178654972811 : True := trivial
theorem main.tw3911810758690780188 : True := trivial
theorem main.tw3934531018447913466 : True := trivial
theorem main.tw3958507339218470045 : True := trivial
theorem main.tw3960113756560652017 : True := trivial
theorem main.tw3985830497718990404 : True := trivial
theorem main.tw3994622017586750766 : True := trivial
theorem main.tw4026173324967665524 : True := trivial
theorem main.tw4026956272090484662 : True := trivial
theorem main.tw4034048572721927537 : True := trivial
theorem main.tw4036238207498611232 : True := trivial
theorem main.tw4038153913678941442 : True := trivial
theorem main.tw4038928485795849711 : True := trivial
theorem main.tw4039676971129161736 : True := trivial
theorem main.tw4044139247061151142 : True := trivial
theorem main.tw4046449949787424452 : True := trivial
theorem main.tw4047586217144654443 : True := trivial
theorem main.tw4072190877284726289 : True := trivial
theorem main.tw4088224383575840552 : True := trivial
theorem main.tw4126091431370883743 : True := trivial
theorem main.tw4139100593308808776 : True := trivial
theorem main.tw4156125974679941130 : True := trivial
theorem main.tw4156893749530806270 : True := trivial
theorem main.tw4189750870438640210 : True := trivial
theorem main.tw4210618832060959676 : True := trivial
theorem main.tw4216741518440994707 : True := trivial
theorem main.tw4237967493491133255 : True := trivial
theorem main.tw4244067443239231564 : True := trivial
theorem main.tw4258463428174104133 : True := trivial
theorem main.tw4261964983698606537 : True := trivial
theorem main.tw4297412468100583042 : True := trivial
theorem main.tw4310270188432123100 : True := trivial
theorem main.tw4324958949535026087 : True := trivial
theorem main.tw432790634136133436 : True := trivial
theorem main.tw4330594992337426955 : True := trivial
theorem main.tw4333880214566435006 : True := trivial
theorem main.tw4350604851675314991 : True := trivial
theorem main.tw4359638763739663684 : True := trivial
theorem main.tw4365514962571936147 : True := trivial
theorem main.tw4370134204219402791 : True := trivial
theorem main.tw4370652028205933106 : True := trivial
theorem main.tw4385281892830598654 : True := trivial
theorem main.tw4388993273346631982 : True := trivial
theorem main.tw440032029612755421 : True := trivial
theorem main.tw4409510580461579534 : True := trivial
theorem main.tw4413345314126155841 : True := trivial
theorem main.tw4420394385881154636 : True := trivial
theorem main.tw4452170602077327944 : True := trivial
theorem main.tw4458048076830672230 : True := trivial
theorem main.tw4475767826048309731 : True := trivial
theorem main.tw4491334807805099456 : True := trivial
theorem main.tw4492577900981701499 : True := trivial
theorem main.tw4500915450034043215 : True := trivial
theorem main.tw4502447428920916452 : True := trivial
theorem main.tw451873465583785326 : True := trivial
theorem main.tw452746233719593009 : True := trivial
theorem main.tw453184122279072053 : True := trivial
theorem main.tw4535713693919183956 : True := trivial
theorem main.tw4540862073306924251 : True := trivial
theorem main.tw4544244032028310869 : True := trivial
theorem main.tw4554758830490901076 : True := trivial
theorem main.tw4573282807186111410 : True := trivial
theorem main.tw4585930131862741453 : True := trivial
theorem main.tw4587069139193485165 : True := trivial
theorem main.tw45874523831157525 : True := trivial
theorem main.tw4605139254293405059 : True := trivial
theorem main.tw4630824681090250767 : True := trivial
theorem main.tw4637267157515435788 : True := trivial
theorem main.tw4638281056170512193 : True := trivial
theorem main.tw4644634924443464280 : True := trivial
theorem main.tw4650958065196391918 : True := trivial
theorem main.tw4651154628705390771 : True := trivial
theorem main.tw4681395471914393968 : True := trivial
theorem main.tw470481871638761223 : True := trivial
theorem main.tw471287901995484742 : True := trivial
theorem main.tw4719957520787936630 : True := trivial
theorem main.tw4741876487499883015 : True := trivial
theorem main.tw474381771622712015 : True := trivial
theorem main.tw4749052000479324790 : True := trivial
theorem main.tw4766233809647381661 : True := trivial
theorem main.tw4784553394551972577 : True := trivial
theorem main.tw4804193426139556710 : True := trivial
theorem main.tw480701840831765632 : True := trivial
theorem main.tw4812270449578504274 : True := trivial
theorem main.tw4838787530573997063 : True := trivial
theorem main.tw4839478117068044826 : True := trivial
theorem main.tw4842883304310455386 : True := trivial
theorem main.tw48596604365144762 : True := trivial
theorem main.tw4871624949866520906 : True := trivial
theorem main.tw4884833596989118616 : True := trivial
theorem main.tw4886955015573163100 : True := trivial
theorem main.tw4887914996728235509 : True := trivial
theorem main.tw4900431672193113347 : True := trivial
theorem main.tw4906387829232792097 : True := trivial
theorem main.tw4908570168794737769 : True := trivial
theorem main.tw4909700646600248447 : True := trivial
theorem main.tw4917070330192852093 : True := trivial
theorem main.tw4924694640843408985 : True := trivial
theorem main.tw4926259647451002352 : True := trivial
theorem main.tw4946776927847147119 : True := trivial
theorem main.tw4948327476702027199 : True := trivial
theorem main.tw495442525896006271 : True := trivial
theorem main.tw4957201559515094939 : True := trivial
theorem main.tw4966469486753893531 : True := trivial
theorem main.tw49674306023711395 : True := trivial
theorem main.tw4967792270526972898 : True := trivial
theorem main.tw5004366561265856203 : True := trivial
theorem main.tw5010051100324977839 : True := trivial
theorem main.tw5061512775090418087 : True := trivial
theorem main.tw5084117380071580128 : True := trivial
theorem main.tw5091552921462167557 : True := trivial
theorem main.tw5102693214775723256 : True := trivial
theorem main.tw5102715291955495162 : True := trivial
theorem main.tw5104194264097766351 : True := trivial
theorem main.tw5106512470501171327 : True := trivial
theorem main.tw5127751686995613262 : True := trivial
theorem main.tw5159356524406597922 : True := trivial
theorem main.tw5160751907100791332 : True := trivial
theorem main.tw5181119749688162637 : True := trivial
theorem main.tw5203219222101121401 : True := trivial
theorem main.tw5217383181990780837 : True := trivial
theorem main.tw52199770228462824 : True := trivial
theorem main.tw5234446048077146213 : True := trivial
theorem main.tw5240536507193477226 : True := trivial
theorem main.tw5240779543111244032 : True := trivial
theorem main.tw5243159528196176124 : True := trivial
theorem main.tw526373878138232175 : True := trivial
theorem main.tw5268168578311729375 : True := trivial
theorem main.tw5287059835090251167 : True := trivial
theorem main.tw5289026146741335887 : True := trivial
theorem main.tw5303952258864922383 : True := trivial
theorem main.tw5309058905264134205 : True := trivial
theorem main.tw5343319030673445083 : True := trivial
theorem main.tw5352104535322881683 : True := trivial
theorem main.tw5363903885879670357 : True := trivial
theorem main.tw5372645768047454471 : True := trivial
theorem main.tw5378808338967829844 : True := trivial
theorem main.tw5396188567872606041 : True := trivial
theorem main.tw5396361742852586263 : True := trivial
theorem main.tw5400957986263281647 : True := trivial
theorem main.tw5401703158475992631 : True := trivial
theorem main.tw5418533224930618480 : True := trivial
theorem main.tw5435614590818080486 : True := trivial
theorem main.tw5436791530062809996 : True := trivial
theorem main.tw5445500540807937540 : True := trivial
theorem main.tw5450094653865882931 : True := trivial
theorem main.tw5456330333991267789 : True := trivial
theorem main.tw5460091804258272057 : True := trivial
theorem main.tw5461779845614304980 : True := trivial
theorem main.tw5464139401052260700 : True := trivial
theorem main.tw5473700226181020891 : True := trivial
theorem main.tw5477019107358212144 : True := trivial
theorem main.tw5481437975921331730 : True := trivial
theorem main.tw54841869916938688 : True := trivial
theorem main.tw5491092008493831813 : True := trivial
theorem main.tw5502569546826302122 : True := trivial
theorem main.tw5507402815253087181 : True := trivial
theorem main.tw5517759331935216279 : True := trivial
theorem main.tw5518243967957118194 : True := trivial
theorem main.tw5527929279227188259 : True := trivial
theorem main.tw5534937755968359062 : True := trivial
theorem main.tw5567732340971880690 : True := trivial
theorem main.tw5571399437266216444 : True := trivial
theorem main.tw5585478044538960755 : True := trivial
theorem main.tw5613160597433933154 : True := trivial
theorem main.tw5616070069386785504 : True := trivial
theorem main.tw561929256534903042 : True := trivial
theorem main.tw5623159541915647742 : True := trivial
theorem main.tw5630581657593164606 : True := trivial
theorem main.tw5632948755005780175 : True := trivial
theorem main.tw5638201095994319732 : True := trivial
theorem main.tw563973728909168745 : True := trivial
theorem main.tw5640900456998636129 : True := trivial
theorem main.tw5649967823195072380 : True := trivial
theorem main.tw5665406974723832613 : True := trivial
theorem main.tw5665735395497279834 : True := trivial
theorem main.tw5671064798259553346 : True := trivial
theorem main.tw567168373054797020 : True := trivial
theorem main.tw5677329702179833609 : True := trivial
theorem main.tw5682492860175070539 : True := trivial
theorem main.tw5768018617931124328 : True := trivial
theorem main.tw5781596087445459943 : True := trivial
theorem main.tw5790326737455844299 : True := trivial
theorem main.tw5797031442667253490 : True := trivial
theorem main.tw5831584030425509755 : True := trivial
theorem main.tw5837888446457221635 : True := trivial
theorem main.tw5838101520590548733 : True := trivial
theorem main.tw5839530249802149432 : True := trivial
theorem main.tw5842977544298395883 : True := trivial
theorem main.tw5865035375444044283 : True := trivial
theorem main.tw5870225077901225703 : True := trivial
theorem main.tw5871769198996169552 : True := trivial
theorem main.tw5873463020976553958 : True := trivial
theorem main.tw588950844065142505 : True := trivial
theorem main.tw5890889631881817875 : True := trivial
theorem main.tw5900072995565114194 : True := trivial
theorem main.tw5921134243170700561 : True := trivial
theorem main.tw5942767615974559732 : True := trivial
theorem main.tw5995161000843957690 : True := trivial
theorem main.tw6044114016751833949 : True := trivial
theorem main.tw6053611964639427726 : True := trivial
theorem main.tw6056095068991171605 : True := trivial
theorem main.tw6068034601077024753 : True := trivial
theorem main.tw6072795283324543088 : True := trivial
theorem main.tw6075091234017535682 : True := trivial
theorem main.tw6087835443962453003 : True := trivial
theorem main.tw6106196091520820027 : True := trivial
theorem main.tw6112859857366181021 : True := trivial
theorem main.tw6117098260805541702 : True := trivial
theorem main.tw6124416833075167902 : True := trivial
theorem main.tw613567027398061577 : True := trivial
theorem main.tw6137908229700043457 : True := trivial
theorem main.tw6140287776057189764 : True := trivial
theorem main.tw6161133996638707016 : True := trivial
theorem main.tw6162249291895867263 : True := trivial
theorem main.tw6164561884633627433 : True := trivial
theorem main.tw6183352029847204284 : True := trivial
theorem main.tw6214117541549086881 : True := trivial
theorem main.tw6234934611588079204 : True := trivial
theorem main.tw6237627108579964202 : True := trivial
theorem main.tw6252391252262179987 : True := trivial
theorem main.tw6254453501864316152 : True := trivial
theorem main.tw6264281720289328834 : True := trivial
theorem main.tw6283666216762299864 : True := trivial
theorem main.tw6298394922185409918 : True := trivial
theorem main.tw6334894449686545209 : True := trivial
theorem main.tw6341409668436394099 : True := trivial
theorem main.tw6384028539975533837 : True := trivial
theorem main.tw6385024630547198690 : True := trivial
theorem main.tw6389877041954997217 : True := trivial
theorem main.tw6394338452064613244 : True := trivial
theorem main.tw6404898279339705064 : True := trivial
theorem main.tw6418098437765475518 : True := trivial
theorem main.tw6418202794160714309 : True := trivial
theorem main.tw6425626318312657004 : True := trivial
theorem main.tw6437645805973890128 : True := trivial
theorem main.tw6449824600675878752 : True := trivial
theorem main.tw645136716886899192 : True := trivial
theorem main.tw6455149578367423246 : True := trivial
theorem main.tw6466086749554424454 : True := trivial
theorem main.tw6483966928607899096 : True := trivial
theorem main.tw6508729118710982530 : True := trivial
theorem main.tw6511744376749373798 : True := trivial
theorem main.tw6512923179152221375 : True := trivial
theorem main.tw6516198228755648517 : True := trivial
theorem main.tw6519269512792494810 : True := trivial
theorem main.tw6535589618603614281 : True := trivial
theorem main.tw6541472054586571296 : True := trivial
theorem main.tw6542085627976250192 : True := trivial
theorem main.tw6545385358150927430 : True := trivial
theorem main.tw6559806142732475569 : True := trivial
theorem main.tw656089360051881306 : True := trivial
theorem main.tw6564366825971848878 : True := trivial
theorem main.tw65644731488775911 : True := trivial
theorem main.tw6565609875121592624 : True := trivial
theorem main.tw6569515737239586001 : True := trivial
theorem main.tw6570437773673931950 : True := trivial
theorem main.tw657867468410044558 : True := trivial
theorem main.tw6582852498587848125 : True := trivial
theorem main.tw6584820252761975732 : True := trivial
theorem main.tw6596593509180878263 : True := trivial
theorem main.tw6605025701479795990 : True := trivial
theorem main.tw6613752742083519222 : True := trivial
theorem main.tw66260789543402106 : True := trivial
theorem main.tw6632538468102435922 : True := trivial
theorem main.tw6635558491612396129 : True := trivial
theorem main.tw6639522245352263942 : True := trivial
theorem main.tw6640438233256266117 : True := trivial
theorem main.tw6642858168728409138 : True := trivial
theorem main.tw6655696309031964122 : True := trivial
theorem main.tw6657087868060814 : True := trivial
theorem main.tw6660377722381337597 : True := trivial
theorem main.tw6663778134991626487 : True := trivial
theorem main.tw6672407995127200409 : True := trivial
theorem main.tw6674386428176565332 : True := trivial
theorem main.tw6674893403203295414 : True := trivial
theorem main.tw6687746943821912201 : True := trivial
theorem main.tw6690441779611380620 : True := trivial
theorem main.tw6696893160125735727 : True := trivial
theorem main.tw6697339332421208802 : True := trivial
theorem main.tw6702130215012162313 : True := trivial
theorem main.tw6741292078354696603 : True := trivial
theorem main.tw6768520987592691376 : True := trivial
theorem main.tw6785432497481299714 : True := trivial
theorem main.tw6785657489111691699 : True := trivial
theorem main.tw6788530277367551627 : True := trivial
theorem main.tw6788695710022549768 : True := trivial
theorem main.tw6801380410627298636 : True := trivial
theorem main.tw6855474311058116810 : True := trivial
theorem main.tw6862268138105152660 : True := trivial
theorem main.tw6862492499505807319 : True := trivial
theorem main.tw6868236387235032019 : True := trivial
theorem main.tw6877560268529008848 : True := trivial
theorem main.tw6880717277089553138 : True := trivial
theorem main.tw6886502059237256666 : True := trivial
theorem main.tw6898400011967081535 : True := trivial
theorem main.tw6907636171062424033 : True := trivial
theorem main.tw6910295442248876197 : True := trivial
theorem main.tw6912675738884088206 : True := trivial
theorem main.tw6921685317656363116 : True := trivial
theorem main.tw6935676897619631941 : True := trivial
theorem main.tw6981580820607432535 : True := trivial
theorem main.tw6981815665589151136 : True := trivial
theorem main.tw7000664437366286474 : True := trivial
theorem main.tw7010351842590255796 : True := trivial
theorem main.tw7019240024125815769 : True := trivial
theorem main.tw7054876372555587774 : True := trivial
theorem main.tw7070123817558143148 : True := trivial
theorem main.tw7074144079889050967 : True := trivial
theorem main.tw7083192437325867461 : True := trivial
theorem main.tw7093617532817203218 : True := trivial
theorem main.tw7108953243070827183 : True := trivial
theorem main.tw7113585516715319716 : True := trivial
theorem main.tw7139307881021679148 : True := trivial
theorem main.tw7142256002058171272 : True := trivial
theorem main.tw7153082081811710619 : True := trivial
theorem main.tw7159657910766400284 : True := trivial
theorem main.tw716429049611869786 : True := trivial
theorem main.tw7165207203227711834 : True := trivial
theorem main.tw7173623326730630234 : True := trivial
theorem main.tw7186131708394509389 : True := trivial
theorem main.tw7214478077546791972 : True := trivial
theorem main.tw7237411587787531456 : True := trivial
theorem main.tw7238065321881607702 : True := trivial
theorem main.tw7268301785047649679 : True := trivial
theorem main.tw7273056430967151046 : True := trivial
theorem main.tw7276690615722977934 : True := trivial
theorem main.tw7293298908176781663 : True := trivial
theorem main.tw7293704977770490947 : True := trivial
theorem main.tw7297187181890747607 : True := trivial
theorem main.tw7298748307773712898 : True := trivial
theorem main.tw7299474751278700455 : True := trivial
theorem main.tw7308723440029596264 : True := trivial
theorem main.tw7332330508316399935 : True := trivial
theorem main.tw7332552209862256014 : True := trivial
theorem main.tw734625210370093676 : True := trivial
theorem main.tw7358942708152152329 : True := trivial
theorem main.tw7374449385936029500 : True := trivial
theorem main.tw73751810991705359 : True := trivial
theorem main.tw7380652910202371479 : True := trivial
theorem main.tw7394006948641179287 : True := trivial
theorem main.tw7411558596216406370 : True := trivial
theorem main.tw7439787175107056256 : True := trivial
theorem main.tw746619569347964165 : True := trivial
theorem main.tw7472237861779093752 : True := trivial
theorem main.tw7472368607099979303 : True := trivial
theorem main.tw7483713754202142201 : True := trivial
theorem main.tw7487416344156704005 : True := trivial
theorem main.tw750237026923860459 : True := trivial
theorem main.tw7514964652732493775 : True := trivial
theorem main.tw7521444476212097132 : True := trivial
theorem main.tw7554534293552944094 : True := trivial
theorem main.tw7563215957194029611 : True := trivial
theorem main.tw7590696779544312186 : True := trivial
theorem main.tw7591743695986301205 : True := trivial
theorem main.tw7623509227018997848 : True := trivial
theorem main.tw7623511443260959870 : True := trivial
theorem main.tw7624122152786673341 : True := trivial
theorem main.tw7624293977416268664 : True := trivial
theorem main.tw7639352225515584698 : True := trivial
theorem main.tw7645368169631071552 : True := trivial
theorem main.tw7647378279178456250 : True := trivial
theorem main.tw765107192605250810 : True := trivial
theorem main.tw7668756792840097458 : True := trivial
theorem main.tw7682646441695089857 : True := trivial
theorem main.tw7691172733374981047 : True := trivial
theorem main.tw7697325545964645800 : True := trivial
theorem main.tw7697417962357392202 : True := trivial
theorem main.tw7698036289167662538 : True := trivial
theorem main.tw7701450462656399998 : True := trivial
theorem main.tw7742616358663508648 : True := trivial
theorem main.tw7751025194823839400 : True := trivial
theorem main.tw7755989106900416354 : True := trivial
theorem main.tw7761410557224570781 : True := trivial
theorem main.tw7780446386730421317 : True := trivial
theorem main.tw7788533954027902341 : True := trivial
theorem main.tw7846812961960373227 : True := trivial
theorem main.tw785246043732427063 : True := trivial
theorem main.tw7860819179221955721 : True := trivial
theorem main.tw7883848961242879871 : True := trivial
theorem main.tw7884273913378172499 : True := trivial
theorem main.tw7904437144335635152 : True := trivial
theorem main.tw7929128423345735474 : True := trivial
theorem main.tw793299525264137939 : True := trivial
theorem main.tw7943094425149488825 : True := trivial
theorem main.tw796168687070700412 : True := trivial
theorem main.tw7972779244933481256 : True := trivial
theorem main.tw7974275031393228247 : True := trivial
theorem main.tw799486724532869496 : True := trivial
theorem main.tw8006537069960932158 : True := trivial
theorem main.tw8021561364319875612 : True := trivial
theorem main.tw8046773169563483271 : True := trivial
theorem main.tw8060562821785662972 : True := trivial
theorem main.tw8068379698969174043 : True := trivial
theorem main.tw8074507844701363242 : True := trivial
theorem main.tw8079908401900000222 : True := trivial
theorem main.tw8083410546124829597 : True := trivial
theorem main.tw8090509862211737132 : True := trivial
theorem main.tw8102450764968551371 : True := trivial
theorem main.tw8118072479153026202 : True := trivial
theorem main.tw8125125469695226666 : True := trivial
theorem main.tw8127475511531132179 : True := trivial
theorem main.tw8205082461047882221 : True := trivial
theorem main.tw8207831470162742035 : True := trivial
theorem main.tw8211959896082780389 : True := trivial
theorem main.tw8220997788571121255 : True := trivial
theorem main.tw8231103150381890471 : True := trivial
theorem main.tw8249873531624179374 : True := trivial
theorem main.tw8260724100714396741 : True := trivial
theorem main.tw8265370782698574782 : True := trivial
theorem main.tw8281396171620568247 : True := trivial
theorem main.tw8283060676807011144 : True := trivial
theorem main.tw8312829660672013939 : True := trivial
theorem main.tw832900586485598795 : True := trivial
theorem main.tw8334314009168571695 : True := trivial
theorem main.tw833945537157984683 : True := trivial
theorem main.tw8344989883159853150 : True := trivial
theorem main.tw834873547066669988 : True := trivial
theorem main.tw8394416109485655870 : True := trivial
theorem main.tw8402242094647718915 : True := trivial
theorem main.tw8404659333953806752 : True := trivial
theorem main.tw8419495778230234659 : True := trivial
theorem main.tw8427638858588021438 : True := trivial
theorem main.tw8436210846270712021 : True := trivial
theorem main.tw8440099810896429113 : True := trivial
theorem main.tw8466321980469482115 : True := trivial
theorem main.tw8467378866343419333 : True := trivial
theorem main.tw8475525182357872103 : True := trivial
theorem main.tw8478376212529829071 : True := trivial
theorem main.tw8484041278411425421 : True := trivial
theorem main.tw8492455212021363390 : True := trivial
theorem main.tw8496349624203035976 : True := trivial
theorem main.tw8534695995614973289 : True := trivial
theorem main.tw8546124895413445307 : True := trivial
theorem main.tw8548823596671561066 : True := trivial
theorem main.tw854977524454699277 : True := trivial
theorem main.tw8557395850702784662 : True := trivial
theorem main.tw8565580760176719406 : True := trivial
theorem main.tw8567518541235275850 : True := trivial
theorem main.tw861011362418597151 : True := trivial
theorem main.tw8624498521744291746 : True := trivial
theorem main.tw8627561154394265716 : True := trivial
theorem main.tw8634654232796393261 : True := trivial
theorem main.tw8651587035891514320 : True := trivial
theorem main.tw8652556701797213591 : True := trivial
theorem main.tw8663697691656813868 : True := trivial
theorem main.tw8681388529863501421 : True := trivial
theorem main.tw8695524101365902355 : True := trivial
theorem main.tw8703757790058876194 : True := trivial
theorem main.tw8707812797481193996 : True := trivial
theorem main.tw8708525158762292434 : True := trivial
theorem main.tw8729708805864041840 : True := trivial
theorem main.tw8748973510418095054 : True := trivial
theorem main.tw8809968196449919288 : True := trivial
theorem main.tw8828626079734051433 : True := trivial
theorem main.tw8834365191522931223 : True := trivial
theorem main.tw8844999433837080629 : True := trivial
theorem main.tw8879939841973710529 : True := trivial
theorem main.tw8883465813499100731 : True := trivial
theorem main.tw8903568455446660058 : True := trivial
theorem main.tw8905464785575363620 : True := trivial
theorem main.tw8905992674379837232 : True := trivial
theorem main.tw892681787802806017 : True := trivial
theorem main.tw8928990268580360915 : True := trivial
theorem main.tw8930851030842425676 : True := trivial
theorem main.tw8934699018898702947 : True := trivial
theorem main.tw8947760058931562597 : True := trivial
theorem main.tw8952462522180670554 : True := trivial
theorem main.tw896017019891655293 : True := trivial
theorem main.tw8984930932524396370 : True := trivial
theorem main.tw8989776476301544223 : True := trivial
theorem main.tw8996212591421123362 : True := trivial
theorem main.tw9011639564254621642 : True := trivial
theorem main.tw9067231828042526015 : True := trivial
theorem main.tw9069182735580402390 : True := trivial
theorem main.tw9071729483887776986 : True := trivial
theorem main.tw9121559901702372667 : True := trivial
theorem main.tw9131807755668617818 : True := trivial
theorem main.tw9155575984036265788 : True := trivial
theorem main.tw9156686268802561153 : True := trivial
theorem main.tw9161159452563919750 : True := trivial
theorem main.tw917386388269078853 : True := trivial
theorem main.tw9175052073728820173 : True := trivial
theorem main.tw9184045479044318644 : True := trivial
theorem main.tw918671981122897330 : True := trivial
theorem main.tw9189880136782149556 : True := trivial
theorem main.tw9190990891756207365 : True := trivial
theorem main.tw9211707205177423737 : True := trivial
theorem main.tw9247501659233101145 : True := trivial
theorem main.tw9253799994812790149 : True := trivial
theorem main.tw9265567077377626405 : True := trivial
theorem main.tw9265829497004654079 : True := trivial
theorem main.tw9268297945177815525 : True := trivial
theorem main.tw9272984997812220495 : True := trivial
theorem main.tw9274054859765456524 : True := trivial
theorem main.tw9287587430799945685 : True := trivial
theorem main.tw9293455121233016472 : True := trivial
theorem main.tw9302470337196694018 : True := trivial
theorem main.tw9303439499767911484 : True := trivial
theorem main.tw9305260289983281074 : True := trivial
theorem main.tw9321267617633783869 : True := trivial
theorem main.tw9360745474812902239 : True := trivial
theorem main.tw9361300454564663673 : True := trivial
theorem main.tw9368617206455126095 : True := trivial
theorem main.tw9369988214560726041 : True := trivial
theorem main.tw9374922184474081937 : True := trivial
theorem main.tw9376575566392132001 : True := trivial
theorem main.tw9381277316556691805 : True := trivial
theorem main.tw9381886862466946253 : True := trivial
theorem main.tw9389665374557996460 : True := trivial
theorem main.tw9394770849952503311 : True := trivial
theorem main.tw9406782406253462049 : True := trivial
theorem main.tw9417822746687237092 : True := trivial
theorem main.tw9432497158254318119 : True := trivial
theorem main.tw9458421452666605423 : True := trivial
theorem main.tw9470667924834194258 : True := trivial
theorem main.tw9482835179454861754 : True := trivial
theorem main.tw9483120023164983764 : True := trivial
theorem main.tw9483696857397876608 : True := trivial
theorem main.tw9484462179196469331 : True := trivial
theorem main.tw9506319705670845312 : True := trivial
theorem main.tw9512817274939609580 : True := trivial
theorem main.tw9515011664573035354 : True := trivial
theorem main.tw9554782927333133507 : True := trivial
theorem main.tw9558744834307401277 : True := trivial
theorem main.tw9561784451562097942 : True := trivial
theorem main.tw9563168847844234846 : True := trivial
theorem main.tw9573086628692744296 : True := trivial
theorem main.tw957831766286570088 : True := trivial
theorem main.tw9601609378552702340 : True := trivial
theorem main.tw9608646114965807792 : True := trivial
theorem main.tw960986543115211030 : True := trivial
theorem main.tw961187720498965250 : True := trivial
theorem main.tw962032349192862916 : True := trivial
theorem main.tw962193829226610041 : True := trivial
theorem main.tw9626384672669237482 : True := trivial
theorem main.tw9653258972835725974 : True := trivial
theorem main.tw965428988826368882 : True := trivial
theorem main.tw9656510801202774680 : True := trivial
theorem main.tw9658885295015712986 : True := trivial
theorem main.tw9670510015898674028 : True := trivial
theorem main.tw9681375758050803366 : True := trivial
theorem main.tw9682133043923132273 : True := trivial
theorem main.tw9693634834776466397 : True := trivial
theorem main.tw9703084557020090508 : True := trivial
theorem main.tw9706551924872666739 : True := trivial
theorem main.tw9716624006974247489 : True := trivial
theorem main.tw9730157408454304684 : True := trivial
theorem main.tw9747897558166968733 : True := trivial
theorem main.tw9756827057097773860 : True := trivial
theorem main.tw979501456738626862 : True := trivial
theorem main.tw9805168224760091760 : True := trivial
theorem main.tw9808303207383738048 : True := trivial
theorem main.tw983542388872702638 : True := trivial
theorem main.tw9840939614602229412 : True := trivial
theorem main.tw9848185148710128376 : True := trivial
theorem main.tw9860529454588575364 : True := trivial
theorem main.tw9880953963774564861 : True := trivial
theorem main.tw9889869242142760280 : True := trivial
theorem main.tw9897820754763898449 : True := trivial
theorem main.tw9903775340124721222 : True := trivial
theorem main.tw9925469786538053656 : True := trivial
theorem main.tw9939699701984659387 : True := trivial
theorem main.tw9942282790977331292 : True := trivial
theorem main.tw9957550378297406723 : True := trivial
theorem main.tw9964214247947446159 : True := trivial
theorem main.tw9976160756891316704 : True := trivial
theorem main.tw9994787619460420439 : True := trivial
theorem keepH {T P : Prop} (hc : T) (mm : P) : P := (fun _ => mm) hc
local macro_rules | `(tactic| tm_val) => `(tactic| exact PyProof.Rows.v_eq_bool (PyProof.Rows.v_res (by rfl)) PyProof.Rows.v_lit)
set_option Elab.async true in
theorem main
    (folders_ : ∀ {w : World} {pg : Program} {lz : List Str} {mean : ExcName → Option Value} {mg mb : Str → Option Value} {dp un : Nat} {gd : Option (List Code)} {cn : Str} {cs : Scope} {a : Addr} {ccd : Value} {cl : List (Str × Addr)} {outer : List Env} {A₀ : Around} {base h₀ : Heap} {L : Addr} {m : Str → Option Value} {s : Shared} {Q E : Value → Shared → Prop} {news : List (Addr × Obj)} {na : Nat} {nv : List Value} {xs : List Int} {c : Nat} (B : Below A₀ base outer h₀) (F : Fr h₀ L s.heap m) (X : (KY w.params).In h₀) (T : Top pg lz mean mg mb h₀) (hk : cs.kind = .function) (hdp : dp + 100 ≤ 700) (hun : un + 800 ≤ 4000) (N : News h₀ L s.heap news) (hn : (na, listOf nv.toArray c) ∈ news) (hI : IntsAre nv xs) (hl : xs.length ≤ 1000) (ret : ∀ (l : Nat) (h' : Heap) (tk' : Nat) (vs : List Value) (add : List (Addr × Obj)) (c' : Nat), Fr h₀ L h' m → News h₀ L h' ((l, listOf vs.toArray c') :: (add ++ news)) → (∀ q ∈ news, q.1 < l) → (∀ q ∈ add, q.1 ≠ l) → (∀ q ∈ news, ∀ p ∈ add, q.1 < p.1) → DatAll add vs (xs.map fldD) → Q (.ref l) { s with heap := h', toks := tk' }), wpAny (model PySem.Challenge.rw_nq0264_01.prog w) (ktrTop dp un gd cn cs L a ccd cl outer) (call (.ref 843) [.ref na]) Q E s)
    (join_ : ∀ {w : World} {pg : Program} {lz : List Str} {mean : ExcName → Option Value} {mg mb : Str → Option Value} {dp un : Nat} {gd : Option (List Code)} {cn : Str} {cs : Scope} {a : Addr} {ccd : Value} {cl : List (Str × Addr)} {outer : List Env} {A₀ : Around} {base h₀ : Heap} {L : Addr} {m : Str → Option Value} {s : Shared} {Q E : Value → Shared → Prop} {rest : List (Addr × Obj)} {na : Nat} {nv : List Value} {c : Nat} {ws : List (List Nat)} (B : Below A₀ base outer h₀) (F : Fr h₀ L s.heap m) (X : (KY w.params).In h₀) (T : Top pg lz mean mg mb h₀) (hk : cs.kind = .function) (hdp : dp + 100 ≤ 700) (hun : un + 800 ≤ 4000) (N : News h₀ L s.heap ((825, tabO #[]) :: (na, listOf nv.toArray c) :: rest)) (h825 : ∀ p ∈ rest, p.1 ≠ 825) (hna : na ≠ 825) (hsz : nv.length ≤ 1000) (hlen : ws.length = nv.length) (hW : ∀ (i : Nat) (v : Value), nv.toArray[i]? = some v → ∃ word t, ws[i]? = some word ∧ v = .str (mkS word) t ∧ WordOk word) (hT : ((ws.map quoT).map List.length).sum + ws.length ≤ 100000) (ret : ∀ (h' : Heap) (tk' : Nat) (gs' : Array GenState) (t' : Tok) (ps' : Array Value), (AllBare s.gens → AllBare gs') → Fr h₀ L h' m → News h₀ L h' ((825, tabO ps') :: (na, listOf nv.toArray c) :: rest) → Q (.str (mkS (joinT (ws.map quoT))) t') { s with heap := h', toks := tk', gens := gs' }), wpAny (model PySem.Challenge.rw_nq0264_01.prog w) (ktrTop dp un gd cn cs L a ccd cl outer) (call (.ref 830) [.ref na]) Q E s)
    (replies_ : ∀ {w : World} {pg : Program} {lz : List Str} {mean : ExcName → Option Value} {mg mb : Str → Option Value} {dp un : Nat} {gd : Option (List Code)} {cn : Str} {cs : Scope} {a : Addr} {ccd : Value} {cl : List (Str × Addr)} {outer : List Env} {A₀ : Around} {base h₀ : Heap} {L : Addr} {m : Str → Option Value} {s : Shared} {Q E : Value → Shared → Prop} {news : List (Addr × Obj)} {na : Nat} {nv : List Value} {xs : List Int} {c : Nat} (B : Below A₀ base outer h₀) (F : Fr h₀ L s.heap m) (X : (KY w.params).In h₀) (T : Top pg lz mean mg mb h₀) (hk : cs.kind = .function) (hdp : dp + 200 ≤ 700) (hun : un + 1800 ≤ 4000) (N : News h₀ L s.heap news) (hn : (na, listOf nv.toArray c) ∈ news) (hI : IntsAre nv xs) (hl : xs.length ≤ 1000) (ret : ∀ (l : Nat) (h' : Heap) (tk' : Nat) (vs : List Value) (add : List (Addr × Obj)) (c' : Nat), Fr h₀ L h' m → News h₀ L h' ((l, listOf vs.toArray c') :: (add ++ news)) → DatAll [] vs ((repsT xs).map strD) → Q (.ref l) { s with heap := h', toks := tk' }), wpAny (model PySem.Challenge.rw_nq0264_01.prog w) (ktrTop dp un gd cn cs L a ccd cl outer) (call (.ref 850) [.ref na]) Q E s)
    (split_ : ∀ {w : World} {pg : Program} {lz : List Str} {mean : ExcName → Option Value} {mg mb : Str → Option Value} {dp un : Nat} {gd : Option (List Code)} {cn : Str} {cs : Scope} {a : Addr} {ccd : Value} {A₀ : Around} {base h₀ : Heap} {L : Addr} {m : Str → Option Value} {s : Shared} {Q E : Value → Shared → Prop} {news : List (Addr × Obj)} {ch : List Nat} {tk : Tok} {n : Nat} {toks : List (List Nat)} (B : Below A₀ base [] h₀) (F : Fr h₀ L s.heap m) (X : (KY w.params).In h₀) (T : Top pg lz mean mg mb h₀) (hk : cs.kind = .function) (hdp : dp + 100 ≤ 700) (hun : un + 800 ≤ 4000) (N : News h₀ L s.heap news) (hx : (mkS ch).length ≤ 100000) (hR : splitAll n .sp ch = some toks) (hok : ∀ c ∈ ch, okc c) (hz : toks.length ≤ 1000000) (ret : ∀ (l : Nat) (h' : Heap) (tk' : Nat) (vs : List Value) (c' : Nat), Fr h₀ L h' m → News h₀ L h' ((l, lst vs.toArray c') :: news) → (∀ q ∈ news, q.1 < l) → StrsAre vs toks → Q (.ref l) { s with heap := h', toks := tk' }), wpAny (model PySem.Challenge.rw_nq0264_01.prog w) (ktrTop dp un gd cn cs L a ccd [] []) (call (.ref 823) [.str (mkS ch) tk]) Q E s)
    (taken_ : ∀ {w : World} {pg : Program} {lz : List Str} {mean : ExcName → Option Value} {mg mb : Str → Option Value} {dp un : Nat} {gd : Option (List Code)} {cn : Str} {cs : Scope} {a : Addr} {ccd : Value} {cl : List (Str × Addr)} {outer : List Env} {A₀ : Around} {base h₀ : Heap} {L : Addr} {m : Str → Option Value} {s : Shared} {Q E : Value → Shared → Prop} {news : List (Addr × Obj)} {ra : Nat} {rv : List Value} {xs : List Int} {c : Nat} (B : Below A₀ base outer h₀) (F : Fr h₀ L s.heap m) (X : (KY w.params).In h₀) (T : Top pg lz mean mg mb h₀) (hk : cs.kind = .function) (hdp : dp + 200 ≤ 700) (hun : un + 1000 ≤ 4000) (N : News h₀ L s.heap ((ra, listOf rv.toArray c) :: news)) (hD : DatAll [] rv ((repsT xs).map strD)) (hl : xs.length ≤ 4) (hz : rv.toArray.size ≤ 1000) (ret : ∀ (l : Nat) (h' : Heap) (tk' : Nat) (vs : List Value) (add : List (Addr × Obj)) (c' : Nat), Fr h₀ L h' m → News h₀ L h' ((l, listOf vs.toArray c') :: (add ++ (ra, listOf rv.toArray c) :: news)) → DatAll (add ++ (ra, listOf rv.toArray c) :: news) vs ((kpopAll xs.length (kheap xs)).map kD) → Q (.ref l) { s with heap := h', toks := tk' }), wpAny (model PySem.Challenge.rw_nq0264_01.prog w) (ktrTop dp un gd cn cs L a ccd cl outer) (call (.ref 855) [.ref ra]) Q E s)
    : PySem.Challenge.rw_nq0264_01.Holds := by
  w_on
  apply keepH
  rotate_left 1
  focus (o_law; o_head (kHook KZ KZa (fun _ => by kernel_rfl)); (case hw => w_witness2))
  w_on
  k_fill
  intro w s₀ s₁ mg mb G Y fa o pm cd doc dV kV ho hd' hcd hD hmg hg args vals as hpre hlay hrd hwl hlo
  have KX := kIn_of Y
  refine Ground.open G ?_
  intro T B D TE TW
  try (refine guard_noD D (by decide +kernel) ?_; clear D)
  obtain ⟨_, _, M⟩ := bmod_of_top T
  have TA := at_of_top T
  try (obtain ⟨_, _, he, B0⟩ := based_of_top T rfl hmg ho hd'; have he' : cd = _ := he; subst he'; clear he)
  clear hmg
  wrow_args hpre hlay hrd hwl hlo
  refine enter_call ?_
  w_top on
  have K0 := below_caller (Top.heap T)
  w_call any ho hd' hcd hD T F
  clear hd' TA
  k_drop
  rename_i w9 w8 w7 w6 ns hs hlA hlB hlC hlD w4 w3 la vs w0 hL ra w1 r0 hI hr hq hcond h₁ N0
  have st0 : ∀ M A a as ks Q E s, Nonempty (StopP (wpAny M A (call (Value.ref a) as ks) Q E s)) := by intros; exact StopP.mk
  have st1 : ∀ M A a b Q E s, Nonempty (StopP (wpAny M A (compareOp CmpOp.NotEq (Value.ref a) (Value.ref b)) Q E s)) := by intros; exact StopP.mk
  have st2 : ∀ M A a b Q E s, Nonempty (StopP (wpAny M A (compareOp CmpOp.Eq (Value.ref a) (Value.ref b)) Q E s)) := by intros; exact StopP.mk
  have st3 : ∀ M A a b Q E s, Nonempty (StopP (wpAny M A (compareOp CmpOp.NotEq a b) Q E s)) := by intros; exact StopP.mk
  have st4 : ∀ M A x xs e g c p q env Q E s, Nonempty (StopP (wpAny M A (exec (Stmt.Assign (x :: xs) (Expr.ListComp e g c p) q) env) Q E s)) := by intros; exact StopP.mk
  have st5 : ∀ M A e g c p env Q E s, Nonempty (StopP (wpAny M A (eval (Expr.ListComp e g c p) env) Q E s)) := by intros; exact StopP.mk
  have st6 : ∀ M A as ks Q E s, Nonempty (StopP (wpAny M A (call (Value.type "zip") as ks) Q E s)) := by intros; exact StopP.mk
  have st10 : ∀ M A x y q a b Q E s, Nonempty (StopP (wpAny M A (subscriptTail x (Expr.Slice none none (some y) q) (Value.ref a) (Value.ref b)) Q E s)) := by intros; exact StopP.mk
  have st11 : ∀ a b c d e f g h i j k l m n, Nonempty (StopP (LCg.CompSrc a b c d e f g h i j k l m n)) := by intros; exact StopP.mk
  have st12 : ∀ a b c d e f g h i j k l m n o, Nonempty (StopP (LCp.SrcLP a b c d e f g h i j k l m n o)) := by intros; exact StopP.mk
  have st13 : ∀ a b c d e f g h i j k l m n, Nonempty (StopP (LCg.CompEnd a b c d e f g h i j k l m n)) := by intros; exact StopP.mk
  have st14 : ∀ M A as ks Q E s, Nonempty (StopP (wpAny M A (call (Value.builtin "sorted") as ks) Q E s)) := by intros; exact StopP.mk
  obtain ⟨g₀, lz', X', T', F', N', B', hL', hKg⟩ := start KX T F hL
  have hOld : ∀ {h' : Heap} {L : Addr} {m : Str → Option Value} {ps : Array Value} {l : List (Addr × Obj)}, Fr g₀ L h' m → News g₀ L h' l → (825, tabO ps) ∈ l → OldK s₁.heap h' := fun F N hm => old_end KX hKg F N hm
  have F2 : Fr g₀ s₁.heap.objs.size h₁ (fun x => if x = Str.ofString "script" then some (Value.ref la) else none) := by
    refine (funext fun x => ?_ : (fun x => if x = Str.ofString "script" then some (Value.ref la) else none) = _) ▸ F'
    show (if x = Str.ofString "script" then some (Value.ref la) else none) = List.lookup x [(Str.ofString "script", Value.ref la)]
    by_cases e : x = Str.ofString "script"
    · subst e; simp
    · have : (x == Str.ofString "script") = false := by simpa using e
      rw [if_neg e, List.lookup_cons, this]; rfl
  clear F F' N0 KX T hL B TE TW M K0 G Y
  generalize s₁.heap.objs.size = L₀ at *
  k_steps
  unfold Stop9
  (rename News _ _ _ _ => nE)
  (rename Fr _ _ _ _ => fE)
  (rename IntsAre _ _ => hI')
  have hl4 : ([4617, 31046] ++ List.take 2 ns).length ≤ 4 := Nat.add_le_add_right (List.length_take_le 2 ns) 2
  generalize hxs : ([4617, 31046] ++ List.take 2 ns : List Int) = xs at hI' hl4
  have nE1 := news_sub (l' := [(825, tabO #[]), _]) nE (by
    intro p hp
    rcases List.mem_cons.mp hp with rfl | hp
    · exact .tail _ (.tail _ (.tail _ (.head _)))
    · rw [List.mem_singleton.mp hp]; exact .head _)
  refine replies_ (cl := []) (outer := []) B' fE X' T' rfl ?h1 ?h2 nE1 (.tail _ (.head _)) hI' (Nat.le_trans hl4 (by decide)) ?_
  case h1 => ktr_room
  case h2 => ktr_units
  intro l1 h1 tk1 rv add1 c1 F1 N1 D1
  clear nE nE1 fE
  k_steps
  unfold Stop9
  (rename News _ _ _ _ => nE)
  (rename Fr _ _ _ _ => fE)
  have n1 := ne_cls nE (.head _) (List.mem_cons_of_mem _ (List.mem_append.mpr (.inr (.head _)))) (show Value.type "list" ≠ (tabO #[]).cls by decide)
  have n2 := ne_cls nE (List.mem_cons_of_mem _ (List.mem_append.mpr (.inr (.tail _ (.head _))))) (List.mem_cons_of_mem _ (List.mem_append.mpr (.inr (.head _)))) (show Value.type "list" ≠ (tabO #[]).cls by decide)
  have nE1 := news_sub (l' := [(825, tabO #[]), (_, _), (_, W.listOf _ 0)]) nE (by
    intro p hp
    rcases List.mem_cons.mp hp with rfl | hp
    · exact List.mem_cons_of_mem _ (List.mem_append.mpr (.inr (.head _)))
    rcases List.mem_cons.mp hp with rfl | hp
    · exact .head _
    · rw [List.mem_singleton.mp hp]
      exact List.mem_cons_of_mem _ (List.mem_append.mpr (.inr (.tail _ (.head _)))))
  have rl : rv.length = (repsT xs).length := by have := datAll_len D1; rwa [List.length_map] at this
  have hT8 : (repsT xs).length ≤ 8 := by rw [repsT_len]; exact Nat.mul_le_mul_left 2 hl4
  refine join_ (ws := repsT xs) (cl := []) (outer := []) B' fE X' T' rfl ?h1 ?h2 nE1 ?h3 n1 (Nat.le_trans (Nat.le_of_eq rl) (Nat.le_trans hT8 (by decide))) rl.symm (reps_hW D1) (reps_sum xs hl4) ?_
  case h1 => ktr_room
  case h2 => ktr_units
  case h3 => intro p hp; rw [List.mem_singleton.mp hp]; exact n2
  intro h2 tk2 gs2 t2 ps2 hb2 F2 N2
  clear nE nE1 fE
  k_steps
  unfold Stop9
  (rename News _ _ _ _ => nE)
  (rename Fr _ _ _ _ => fE)
  have hx0 : xs ≠ [] := by rw [← hxs]; simp
  refine split_ B' fE X' T' rfl ?h1 ?h2 nE (reps_joinLen xs hl4) (reps_split xs hx0) (reps_okc xs) (Nat.le_trans hT8 (by decide)) ?_
  case h1 => ktr_room
  case h2 => ktr_units
  intro l3 h3 tk3 rd c3 F3 N3 lt3 S3
  have D3 := strs_dat S3
  clear nE fE
  k_steps
  unfold Stop9
  (rename News _ _ _ _ => nE)
  (rename Fr _ _ _ _ => fE)
  refine ne_same nE (.head _) rfl rfl D3 (fun _ h => by cases h) (.tail _ (.tail _ (.head _))) rfl rfl D1 (fun _ h => by cases h) (reps_dok xs) (by ktr_units) ?_
  k_steps
  unfold Stop9
  (rename News _ _ _ _ => nE)
  (rename Fr _ _ _ _ => fE)
  refine folders_ (cl := []) (outer := []) B' fE X' T' rfl ?h1 ?h2 nE (.tail _ (.tail _ (.tail _ (.head _)))) hI' (Nat.le_trans hl4 (by decide)) ?_
  case h1 => ktr_room
  case h2 => ktr_units
  intro l4 h4 tk4 fv add4 c4 F4 N4 lt4 ne4 la4 D4
  clear nE fE
  k_steps
  unfold Stop9
  (rename News _ _ _ _ => nE)
  (rename Fr _ _ _ _ => fE)
  have hwl := hI'.length
  have hfl : fv.length = xs.length := by rw [D4.length, List.length_map]
  have hrd : rd.length ≤ 8 := by rw [D3.length, List.length_map]; exact hT8
  have hr8 : rd.length = 4 ∨ rd.length = 6 ∨ rd.length = 8 := by
    rw [D3.length, List.length_map]; exact l468 (repsT_len xs) (by rw [← hxs]; exact Nat.le_add_left 2 _) hl4
  obtain ⟨B4, nB, m4, m3, m825, m1, s4⟩ := pack4 nE
  clear nE
  refine Assign_ListComp_Z (J := fun i ys add => DatAll add ys ((xs.take i).map wordD)) (l2 := l4) (by rfl) (by with_unfolding_all rfl) (by with_unfolding_all rfl) (by decide) (by rfl) (by decide) (by rfl) (by rfl) (by decide) (by rfl) (by rfl) (by rfl) m1 m4 ?sz ?same fE nB ?J0 ?it ?step ?fin
  case sz => rw [List.size_toArray, hwl]; exact le16 hl4 (by decide)
  case same => rw [List.size_toArray, List.size_toArray]; exact hfl.trans hwl.symm
  case J0 => exact .nil
  case it =>
    intro Q' hQ'
    k_steps
    unfold Stop9
    exact hQ'
  case step =>
    intro i ys add x v C oC D Z o1 o2 o3 o4 o5 m₂ h tk E' hx0 hv hJ hC hxa hxb F5 N5 off5
    clear nB fE
    obtain ⟨x, tx, rfl, hx⟩ := intsAt hI' hx0
    obtain ⟨ta, tt, tu, tn, rfl, hta⟩ := fldD_inv (dat_at D4 hv hx)
    generalize hled : zOwn C oC D (LCg.lst ys) Z o1 o2 o3 o4 o5 ++ (add ++ _) = led at N5
    have N6 := news_sub (l' := (ta, { cls := .type "tuple", data := .seq #[.int (x % 64) tt, .str (mkS (fld x)) tu] tn }) :: (C, oC) :: led) N5 (by
      intro p hp
      rcases List.mem_cons.mp hp with rfl | hp
      · rw [← hled]
        exact List.mem_append.mpr (.inr (List.mem_append.mpr (.inr (s4 _ hta))))
      rcases List.mem_cons.mp hp with rfl | hp
      · rw [← hled]
        exact List.mem_append.mpr (.inl (.head _))
      · exact hp)
    clear N5
    have st7 : ∀ M A as ks Q E s, Nonempty (StopP (wpAny M A (call (Value.builtin "str.replace") as ks) Q E s)) := by intros; exact StopP.mk
    have st8 : ∀ M A a b t Q E s, Nonempty (StopP (wpAny M A (binaryOp Operator.Mult (Value.ref a) (Value.int b t)) Q E s)) := by intros; exact StopP.mk
    have st9 : ∀ M A a b Q E s, Nonempty (StopP (wpAny M A (binaryOp Operator.Add (Value.ref a) (Value.ref b)) Q E s)) := by intros; exact StopP.mk
    (k_steps; repeat' (refine Stop9.inn ?_; (first | ((with_reducible show wpAny _ _ (call (Value.builtin "str.replace") _ _) _ _ _); k_here; (try dsimp only [List.cons_append, List.nil_append]); k_dflt (refine' replace34 e6 e0 ?qa1 ?qa2 ?qa3 (by decide +kernel) ?qa4 (by decide) ?_; (case qa1 => exact tokN (by (try dsimp only); omega)); (case qa2 => exact tokN (by (try dsimp only); omega)); (case qa3 => exact tokN (by (try dsimp only); omega)); (case qa4 => exact Nat.le_trans (fld_len _) (by decide))); intro t9 k9; (try dsimp only)) | ((with_reducible show wpAny _ _ (binaryOp Operator.Mult _ _) _ _ _); k_here; k_dflt (refine' KMa.mul ?qF ?qN ?ql ?qa1 ?qa2 ?qa3 rfl ?_; (case qF => k_asm); (case qN => k_asm); (case ql => kmk_list); (case qa1 => (simp only [fm2]; exact Int.le_trans (by decide) (em0 _ (by decide)))); (case qa2 => (simp only [fm2]; exact Int.lt_trans (em1 _ (by decide)) (by decide))); (case qa3 => ((simp only [List.length_cons, List.length_nil, fm2]); first | exact Nat.le_trans (Nat.mul_le_mul_left _ (emN _ 1 (by decide) (by decide))) (by decide) | omega)); k_whole); intro D9 h9 F9 N9 l9) | ((with_reducible show wpAny _ _ (binaryOp Operator.Add _ _) _ _ _); k_here; k_dflt (refine' kmk_add_lit ?qF ?qN ?ql ?ql2 rfl ?_ ?qz; (case qF => k_asm); (case qN => k_asm); (case ql => kmk_list); (case ql2 => kmk_list); (case qz => (simp only [sizeLine_eq, List.length_cons, List.length_nil, List.length_flatten, List.map_replicate, List.sum_replicate_nat, fm2]; omega)); k_whole); intro D9 h9 F9 N9 l9)); all_goals k_steps))
    (rename News _ _ _ _ => nE)
    (rename Fr _ _ _ _ => fE)
    exact word_end fE nE (fun p hp => .tail _ (.tail _ (.tail _ (.tail _ (.tail _ hp))))) hled (by assumption) hJ hx wordD_in
  case fin =>
    intro ysW addW DW hW tkW hyl hJ F5 N5 lt5 ne5
    clear nB fE
    rw [List.size_toArray, hwl, List.take_length] at hJ
    obtain ⟨B5, nB, mW, sW, s5⟩ := pack2 N5
    clear N5 lt5 ne5
    replace m3 := s5 _ m3
    replace m4 := s5 _ m4
    replace m825 := s5 _ m825
    replace s4 : ∀ p ∈ add4, p ∈ B5 := fun p hp => s5 _ (s4 p hp)
    clear s5 m1 B4
    k_steps
    unfold Stop9
    (rename News _ _ _ _ => nE)
    (rename Fr _ _ _ _ => fE)
    refine LCg.ListComp_U fE (by with_unfolding_all rfl) (by decide) (by rfl) (by decide) (by rfl) ?_
    k_steps
    unfold Stop9
    (rename News _ _ _ _ => nE)
    (rename Fr _ _ _ _ => fE)
    k_dflt (refine' kmk_slice3_lit fE nE ⟨_, (nE _ m3).1, rfl, _, rfl⟩ .none .none (IsPart.int _ _) (by decide) (pick2 rd hr8) ?_ ?s ?t ?z)
    case s => with_unfolding_all rfl
    case t => intro _; with_unfolding_all rfl
    case z => rw [List.size_toArray]; exact le16 hrd (by decide)
    intro D9 h9 F9 N9 l9
    dsimp only
    clear nE fE
    k_steps
    unfold Stop9
    (rename News _ _ _ _ => nE)
    (rename Fr _ _ _ _ => fE)
    obtain ⟨B6, nB, m9, s6⟩ := pack1 nE
    clear nE
    have hev := evens_reps D3
    have hel : (evens rd).length = xs.length := by rw [hev.length, List.length_map]
    have hsz : (evens rd).toArray.size = xs.length := by rw [List.size_toArray, hel]
    refine LCg.CompSrc.ledger (by rfl) fE nB m9 (by rw [hsz]; exact le16 hl4 (by decide)) (fun g => comp_ind (SJ B6 xs wordD) ?cfin ?cstep _ 0 [] _ (Nat.add_zero _) ⟨[], rfl, .nil⟩)
    case cstep =>
      clear nB fE
      rintro i ys led hi ⟨add, rfl, hJ2⟩ v I5 oI5 C5 oC5 D5 m5 h5 tk5 E5 hv hC5 hx5 F5 N5 off5 ne5
      obtain ⟨x, hx⟩ : ∃ x, xs[i]? = some x := ⟨_, List.getElem?_eq_getElem (hsz ▸ hi)⟩
      have hd := dat_at hev hv hx
      obtain ⟨ts, rfl⟩ : ∃ ts, v = .str (mkS (r257 x)) ts := by
        cases hd
        exact ⟨_, rfl⟩
      k_steps
      unfold Stop9
      (rename News _ _ _ _ => nE)
      (rename Fr _ _ _ _ => fE)
      refine split_ B' fE X' T' rfl ?h1 ?h2 nE ?hx (split257 x) (ok257 x) ?hz ?_
      case h1 => ktr_room
      case h2 => ktr_units
      case hx => exact Nat.le_trans (wordOk_len (word257 x)) (by decide)
      case hz => exact Nat.le_trans (wordsT_len x) (by decide)
      intro l6 h6 tk6 vs6 c6 F6 N6 lt6 S6
      k_steps
      unfold Stop9
      refine ⟨h6, _, (l6, lst vs6.toArray c6) :: (add ++ B6), rfl, F6, ?_, off3_add (lt6 _ (.head _)) (lt6 _ (.tail _ (.head _))) (lt6 _ (.tail _ (.tail _ (.head _)))) off5, .inr ⟨_, .tail _ (List.mem_append.mpr (.inr m9)), rfl, _, rfl⟩, SJ.step hJ2 hx ?_⟩
      · exact news_sub N6 (by repeat' (first | with_reducible exact sub_refl | with_reducible refine sub_cons ?_ ?_ | with_reducible refine sub_tail ?_ | with_reducible assumption | with_reducible exact List.mem_cons_self | with_reducible refine List.mem_cons_of_mem _ ?_))
      · exact DatIn.list (.head _) ((strs_dat S6).mono (fun p (hp : p ∈ ([] : List (Addr × Obj))) => nomatch hp))
    case cfin =>
      rintro ys led ⟨add, rfl, hJ2⟩
      rw [hsz, List.take_length] at hJ2
      unfold LCg.FinE
      intro D5 h5 tk5 F5 N5 o5
      clear nB fE
      obtain ⟨B7, nB, mS, sS, s7⟩ := pack2 N5
      clear N5
      replace m3 := s7 _ (s6 _ m3)
      replace m4 := s7 _ (s6 _ m4)
      replace m825 := s7 _ (s6 _ m825)
      replace mW := s7 _ (s6 _ mW)
      replace s4 : ∀ p ∈ add4, p ∈ B7 := fun p hp => s7 _ (s6 _ (s4 p hp))
      replace sW : ∀ p ∈ addW, p ∈ B7 := fun p hp => s7 _ (s6 _ (sW p hp))
      clear s7 s6 m9 o5
      k_steps
      unfold Stop9
      (rename News _ _ _ _ => nE)
      (rename Fr _ _ _ _ => fE)
      refine ne_same nE mS rfl rfl hJ2 sS mW rfl rfl hJ sW (word_dok xs) (by ktr_units) ?_
      k_steps
      unfold Stop9
      (rename News _ _ _ _ => nE)
      (rename Fr _ _ _ _ => fE)
      have nE1 := news_sub (l' := (l3, lst rd.toArray c3) :: B7) nE (fun p hp => by
        rcases List.mem_cons.mp hp with rfl | hp
        · exact m3
        · exact hp)
      refine taken_ B' fE X' T' rfl ?h1 ?h2 nE1 D3 hl4 (by rw [List.size_toArray]; exact Nat.le_trans hrd (by decide)) ?_
      case h1 => ktr_room
      case h2 => ktr_units
      intro l8 h8 tk8 vs8 add8 c8 F8 N8 D8
      clear nE nE1 fE
      obtain ⟨B8, nB, m8, s8, s7⟩ := pack2 N8
      clear N8
      replace D8 := D8.mono (news' := B8) (fun p hp => by
        rcases List.mem_append.mp hp with hp | hp
        · exact s8 _ hp
        · exact s7 _ hp)
      replace m4 := s7 _ (.tail _ m4)
      replace m825 := s7 _ (.tail _ m825)
      replace s4 : ∀ p ∈ add4, p ∈ B8 := fun p hp => s7 _ (.tail _ (s4 p hp))
      clear s7 s8
      k_steps
      unfold Stop9
      (rename News _ _ _ _ => nE)
      (rename Fr _ _ _ _ => fE)
      refine LCp.ListComp_P (F₀ := fE) (by with_unfolding_all rfl) (by decide) (by rfl) (by decide) (by rfl) (by rfl) (by decide) ?_
      k_steps
      unfold Stop9
      (rename News _ _ _ _ => nE)
      (rename Fr _ _ _ _ => fE)
      have D4' : DatAll add4 fv ((xs.map keyX).map fldK) := by rw [List.map_map]; exact D4
      have hx2 : 2 ≤ xs.length := by rw [← hxs]; simp
      refine sorted_ fE nE m4 D4' s4 (by rw [List.length_map]; exact hx2) (by rw [List.length_map]; exact hl4) ?_
      intro D10 h10 c10 vs10 F10 N10 l10 S10
      clear nE fE
      rw [List.length_map, ← kheap_eq] at S10
      have hkd := kD_dok xs
      have hkl := kpopAll_len xs.length (kheap xs)
      generalize kpopAll xs.length (kheap xs) = ks at S10 D8 hkd hkl
      have hvl : vs10.length = ks.length := by rw [S10.length, List.length_map]
      obtain ⟨B9, nB, m10, s9⟩ := pack1 N10
      clear N10 l10
      refine LCp.SrcLP.ledger (by rfl) F10 nB m10 (by rw [List.size_toArray, hvl]; exact le16 (Nat.le_trans hkl hl4) (by decide)) (fun g => comp_indP (SJ B9 ks kD) ?cfin2 ?cstep2 _ 0 [] _ (Nat.add_zero _) ⟨[], rfl, .nil⟩)
      case cstep2 =>
        clear nB F10
        rintro i ys led hi ⟨add, rfl, hJ3⟩ v hv
        rw [List.size_toArray, hvl] at hi
        obtain ⟨k, hk⟩ : ∃ k, ks[i]? = some k := ⟨_, List.getElem?_eq_getElem hi⟩
        obtain ⟨ta, tt, tu, tn, rfl, hta⟩ := fldK_inv (dat_at S10 hv hk)
        refine ⟨ta, _, _, _, _, rfl, List.mem_append.mpr (.inr (s9 _ (s4 _ hta))), rfl, rfl, ?_⟩
        intro I5 oI5 C5 oC5 D5 m5 h5 tk5 E5 hC5 hx5 hy5 F5 N5 off5 ne5
        k_steps
        unfold Stop9
        (rename News _ _ _ _ => nE)
        (rename Fr _ _ _ _ => fE)
        (rename _ ∧ _ ∧ _ ∧ AllLt _ _ => l1)
        exact comp_end3 fE nE l1.1 l1.2.1 l1.2.2.1 off5 m10 (SJ.step hJ3 hk (kD_in (.head _)))
      case cfin2 =>
        rintro ys led ⟨add, rfl, hJ3⟩
        rw [List.size_toArray, hvl, List.take_length] at hJ3
        unfold LCg.FinE
        intro D5 h5 tk5 F5 N5 o5
        clear nB F10
        obtain ⟨B10, nB, mS, sS, s7⟩ := pack2 N5
        clear N5 o5
        replace m8 := s7 _ (s9 _ m8)
        replace m825 := s7 _ (s9 _ m825)
        replace D8 := D8.mono (news' := B10) (fun p hp => s7 _ (s9 _ hp))
        clear s7 s9
        k_steps
        unfold Stop9
        (rename News _ _ _ _ => nE)
        (rename Fr _ _ _ _ => fE)
        refine eq_same nE m8 rfl rfl D8 (fun _ h => h) mS rfl rfl hJ3 sS hkd (by ktr_units) ?_
        k_steps
        exact ⟨.inl ⟨.bool true, .bool true, [], rfl, raisesW_false (by wrow_none_raised), .bool true, (by wrow_post), fun _ => ⟨List.nodup_nil, fun a ha => by cases ha⟩⟩, hOld fE nE m825, rfl, hb2 (.of_eq hg)⟩
section
section
variable {w : World} {pg : Program} {lz : List Str} {mean : ExcName → Option Value} {mg mb : Str → Option Value} {dp un : Nat} {gd : Option (List Code)} {cn : Str} {cs : Scope} {a : Addr} {ccd : Value} {cl : List (Str × Addr)} {outer : List Env} {A₀ : Around} {base h₀ : Heap} {L : Addr} {m : Str → Option Value} {s : Shared} {Q E : Value → Shared → Prop}
theorem read1 {xa xd sa sd pb fs : Nat} {st : Value} {tok buf : Str} {pos : Int} {ex led : List (Addr × Obj)} {tk : Tok}
   (B : Below A₀ base outer h₀) (F : Fr h₀ L s.heap m) (X : (KY w.params).In h₀) (T : Top pg lz mean mg mb h₀) (hk : cs.kind = .function) 
   (hdp : dp + 20 < recursionLimit) (hun : un + 100 < cLine) (I : IsLex w xa xd sa sd pb fs st tok buf pos ex led) (N : News h₀ L s.heap led) (P : Apart xa xd sa sd pb fs ex)
   (hx : buf.length ≤ 100000) (hp : 0 ≤ pos) (hpl : pos ≤ (buf.length : Int)) 
   (ret0 : pos = (buf.length : Int) → ∀ (led' : List (Addr × Obj)) (t : Tok) (h' : Heap) (tk' : Nat), Fr h₀ L h' m → IsLex w xa xd sa sd pb fs st tok buf pos ex led' → News h₀ L h' led' → Q (.str (Str.ofString "") t) { s with heap := h', toks := tk' })
   (ret : pos < (buf.length : Int) → ∀ (led' : List (Addr × Obj)) (t : Tok) (h' : Heap) (tk' : Nat), Fr h₀ L h' m → IsLex w xa xd sa sd pb fs st tok buf (pos + 1) ex led' → News h₀ L h' led' → Q (.str (Txt.slice buf (some pos) (some (pos + 1))) t) { s with heap := h', toks := tk' }) :
   wpAny (model PySem.Challenge.rw_nq0264_01.prog w) (ktrTop dp un gd cn cs L a ccd cl outer) (call (.ref 622) [.ref sa, .int 1 tk]) Q E s := by
  obtain ⟨kk, jj, rfl⟩ := I
  obtain ⟨c1, c2, c3, c4, c5, d1, d3, d4, d5, a6, a7⟩ := P
  w_on
  refine wpAny_call ?_
  k_dflt cell_enter
  k_steps
  all_goals ((rename News _ _ _ _ => nE); first
    | exact ret (by omega) _ _ _ _ (by assumption) isLex_mk nE
    | exact ret0 (by omega) _ _ _ _ (by assumption) isLex_mk nE
    | ((have e : (buf.length : Int) = pos + 1 := by omega); rw [e] at nE ⊢; exact ret (by omega) _ _ _ _ (by assumption) isLex_mk nE)
    | (trace_state; w_report))
end
end

section
section
variable {w : World} {pg : Program} {lz : List Str} {mean : ExcName → Option Value} {mg mb : Str → Option Value} {dp un : Nat} {gd : Option (List Code)} {cn : Str} {cs : Scope} {a : Addr} {ccd : Value} {cl : List (Str × Addr)} {outer : List Env} {A₀ : Around} {base h₀ : Heap} {L : Addr} {m : Str → Option Value} {s : Shared} {Q E : Value → Shared → Prop}
theorem read1c {xa xd sa sd pb fs : Nat} {st : Value} {tok buf : Str} {pos : Int} {ex led : List (Addr × Obj)} {tk : Tok}
   (B : Below A₀ base outer h₀) (F : Fr h₀ L s.heap m) (X : (KY w.params).In h₀) (T : Top pg lz mean mg mb h₀) (hk : cs.kind = .function) 
   (hdp : dp + 20 < recursionLimit) (hun : un + 100 < cLine) (I : IsLex w xa xd sa sd pb fs st tok buf pos ex led) (N : News h₀ L s.heap led) (P : Apart xa xd sa sd pb fs ex)
   (hx : buf.length ≤ 100000) (hp : 0 ≤ pos) (hpl : pos < (buf.length : Int)) 
   (ret : ∀ (led' : List (Addr × Obj)) (t : Tok) (h' : Heap) (tk' : Nat), Fr h₀ L h' m → IsLex w xa xd sa sd pb fs st tok buf (pos + 1) ex led' → News h₀ L h' led' → Q (.str (Txt.slice buf (some pos) (some (pos + 1))) t) { s with heap := h', toks := tk' }) :
   wpAny (model PySem.Challenge.rw_nq0264_01.prog w) (ktrTop dp un gd cn cs L a ccd cl outer) (call (.ref 622) [.ref sa, .int 1 tk]) Q E s := read1 B F X T hk hdp hun I N P hx hp (Int.le_of_lt hpl) (fun e => absurd hpl (by omega)) (fun _ => ret)
theorem read1e {xa xd sa sd pb fs : Nat} {st : Value} {tok buf : Str} {pos : Int} {ex led : List (Addr × Obj)} {tk : Tok}
   (B : Below A₀ base outer h₀) (F : Fr h₀ L s.heap m) (X : (KY w.params).In h₀) (T : Top pg lz mean mg mb h₀) (hk : cs.kind = .function) 
   (hdp : dp + 20 < recursionLimit) (hun : un + 100 < cLine) (I : IsLex w xa xd sa sd pb fs st tok buf pos ex led) (N : News h₀ L s.heap led) (P : Apart xa xd sa sd pb fs ex)
   (hx : buf.length ≤ 100000) (hp : 0 ≤ pos) (hpl : pos = (buf.length : Int)) 
   (ret : ∀ (led' : List (Addr × Obj)) (t : Tok) (h' : Heap) (tk' : Nat), Fr h₀ L h' m → IsLex w xa xd sa sd pb fs st tok buf pos ex led' → News h₀ L h' led' → Q (.str (Str.ofString "") t) { s with heap := h', toks := tk' }) :
   wpAny (model PySem.Challenge.rw_nq0264_01.prog w) (ktrTop dp un gd cn cs L a ccd cl outer) (call (.ref 622) [.ref sa, .int 1 tk]) Q E s := read1 B F X T hk hdp hun I N P hx hp (Int.le_of_eq hpl) (fun _ => ret) (fun e => absurd hpl (by omega))
local macro_rules | `(tactic| walk_at "ite") => `(tactic| (first | refine ite_pos (by with_reducible assumption) ?_ | refine ite_isFalse (by with_reducible assumption) ?_))
local macro_rules | `(tactic| walk_at "exec If") => `(tactic| k_fold)
local macro_rules | `(tactic| walk_at "exec Assign") => `(tactic| k_fold)
local macro_rules | `(tactic| walk_at "exec Expr") => `(tactic| k_fold)
local macro_rules | `(tactic| walk_at "exec Return") => `(tactic| k_fold)
theorem read_token {xa xd sa sd pb fs : Nat} {S : S4} {ts : Tok} {ch : List Nat} {p : Nat} {ex led : List (Addr × Obj)} {R : Out4}
   (B : Below A₀ base outer h₀) (F : Fr h₀ L s.heap m) (X : (KY w.params).In h₀) (T : Top pg lz mean mg mb h₀) (hk : cs.kind = .function) 
   (hdp : dp + 30 < recursionLimit) (hun : un + 200 < cLine) (I : IsLex w xa xd sa sd pb fs (S.val ts) (Str.ofString "") (mkS ch) p ex led) (N : News h₀ L s.heap led) (P : Apart xa xd sa sd pb fs ex)
   (hx : (mkS ch).length ≤ 100000) (hpl : p ≤ ch.length) (hS : S = .nn ∨ S = .sp) (hR : rd S false [] (ch.drop p) = some R) (hok : ∀ c ∈ ch, okc c)
   (ret : ∀ (led' : List (Addr × Obj)) (t ts' : Tok) (p' : Nat) (h' : Heap) (tk' : Nat), Fr h₀ L h' m → p' ≤ ch.length → ch.drop p' = R.rest → R.tok.length ≤ ch.length → IsLex w xa xd sa sd pb fs ((if R.eof then S4.nn else S4.sp).val ts') (Str.ofString "") (mkS ch) p' ex led' → News h₀ L h' led' → Q (retV R t) { s with heap := h', toks := tk' }) :
   wpAny (model PySem.Challenge.rw_nq0264_01.prog w) (ktrTop dp un gd cn cs L a ccd cl outer) (call (.ref 779) [.ref xa]) Q E s := by
  have st0 : ∀ M A c l t Q E s, Nonempty (StopP (wpAny M A (PySem.truthy (Value.str (mkS (c :: l)) t)) Q E s)) := by intros; exact StopP.mk
  have st1 : ∀ M A e es p b o q env Q E s, Nonempty (StopP (wpAny M A (exec (Stmt.If (Expr.Compare e [CmpOp.Is] es p) b o q) env) Q E s)) := by intros; exact StopP.mk
  have st2 : ∀ M A c b o q env Q E s, Nonempty (StopP (wpAny M A (exec (Stmt.While c b o q) env) Q E s)) := by intros; exact StopP.mk
  have st3 : ∀ M A as ks Q E s, Nonempty (StopP (wpAny M A (call (Value.ref 622) as ks) Q E s)) := by intros; exact StopP.mk
  have I0 := I
  obtain ⟨kk, jj, rfl⟩ := I
  have PP := P
  obtain ⟨c1, c2, c3, c4, c5, d1, d3, d4, d5, a6, a7⟩ := P
  w_on
  refine wpAny_call ?_
  k_dflt cell_enter
  (k_steps; repeat' (refine Stop9.inn ?_; (first | (k_here; (with_reducible show wpAny _ _ (PySem.truthy (Value.str (mkS (_ :: _)) _)) _ _ _); k_dflt (refine KXt.truthy_pos (K := 16777216) (Nat.succ_le_succ (Nat.zero_le _)) (by first | exact Nat.le_of_ble_eq_true rfl | (refine mkS_len ?_; first | assumption | omega)) (Nat.le_refl _) ?_); intro _) | (k_here; (with_reducible show wpAny _ _ (call (Value.ref 622) _) _ _ _); k_dflt (first | (refine' read1c ?B ?F ?X ?T ?hk ?hdp ?hun ?I ?N ?P ?hx ?hp ?hpl ?_; (case B => k_asm); (case F => k_asm); (case X => k_asm); (case T => k_asm); (case hk => exact rfl); (case N => k_asm); (case I => exact isLex_mk); (case P => assumption); (case hdp => ktr_room); (case hun => ktr_units); (case hx => assumption); (case hp => omega); (case hpl => omega); k_whole; (intro led9 t9 h9 tk9 F9 I9 N9); obtain ⟨kk, jj, e9⟩ := I9; subst e9; (rename Txt.slice _ _ _ = _ => hs9); rw [hs9]; (try dsimp only)) | (refine' read1e ?B ?F ?X ?T ?hk ?hdp ?hun ?I ?N ?P ?hx ?hp ?hpl ?_; (case B => k_asm); (case F => k_asm); (case X => k_asm); (case T => k_asm); (case hk => exact rfl); (case N => k_asm); (case I => exact isLex_mk); (case P => assumption); (case hdp => ktr_room); (case hun => ktr_units); (case hx => assumption); (case hp => omega); (case hpl => omega); k_whole; (intro led9 t9 h9 tk9 F9 I9 N9); obtain ⟨kk, jj, e9⟩ := I9; subst e9; (try dsimp only))))); all_goals k_steps))
  refine Stop9.out ?_
  (rename Fr _ _ _ _ => F1)
  (rename News _ _ _ _ => N1)
  refine loop_go (n₀ := ch.length - p) (cs := ch) (R := R) (xa := xa) (xd := xd) (sa := sa) (sd := sd) (pb := pb) (fs := fs) (ex := ex) F1 N1 ?init ?turn ?hE ?rest
  case init => exact ⟨S, false, [], p, ts, _, _, _, _, rfl, hpl, rfl, e0, rfl, I0, ⟨fun _ => ⟨rfl, rfl⟩, fun _ => ⟨rfl, rfl⟩, fun h => by rcases hS with rfl | rfl <;> cases h⟩, hR, Nat.zero_le _, rfl, rfl, rfl⟩
  case hE => passes_own
  case rest =>
    clear F1 N1 I0
    rintro f s' ⟨rfl, h', tk, m', led', ts', te', p', st', tok', pi', rfl, F', N', hp', hdp', rfl, rfl, rfl, hb', I', hm1, hm2, hm3⟩
    obtain ⟨kk, jj, rfl⟩ := I'
    have F2 := fr_map3 F' hm1 hm2 hm3
    clear F'
    (k_steps; repeat' (refine Stop9.inn ?_; (first | (k_here; (with_reducible show wpAny _ _ (PySem.truthy (Value.str (mkS (_ :: _)) _)) _ _ _); k_dflt (refine KXt.truthy_pos (K := 16777216) (Nat.succ_le_succ (Nat.zero_le _)) (by first | exact Nat.le_of_ble_eq_true rfl | (refine mkS_len ?_; first | assumption | omega)) (Nat.le_refl _) ?_); intro _) | (k_here; (with_reducible show wpAny _ _ (call (Value.ref 622) _) _ _ _); k_dflt (first | (refine' read1c ?B ?F ?X ?T ?hk ?hdp ?hun ?I ?N ?P ?hx ?hp ?hpl ?_; (case B => k_asm); (case F => k_asm); (case X => k_asm); (case T => k_asm); (case hk => exact rfl); (case N => k_asm); (case I => exact isLex_mk); (case P => assumption); (case hdp => ktr_room); (case hun => ktr_units); (case hx => assumption); (case hp => omega); (case hpl => omega); k_whole; (intro led9 t9 h9 tk9 F9 I9 N9); obtain ⟨kk, jj, e9⟩ := I9; subst e9; (rename Txt.slice _ _ _ = _ => hs9); rw [hs9]; (try dsimp only)) | (refine' read1e ?B ?F ?X ?T ?hk ?hdp ?hun ?I ?N ?P ?hx ?hp ?hpl ?_; (case B => k_asm); (case F => k_asm); (case X => k_asm); (case T => k_asm); (case hk => exact rfl); (case N => k_asm); (case I => exact isLex_mk); (case P => assumption); (case hdp => ktr_room); (case hun => ktr_units); (case hx => assumption); (case hp => omega); (case hpl => omega); k_whole; (intro led9 t9 h9 tk9 F9 I9 N9); obtain ⟨kk, jj, e9⟩ := I9; subst e9; (try dsimp only))))); all_goals k_steps))
    all_goals ((rename News _ _ _ _ => nE); (rename Fr _ _ _ _ => fE); (first | refine use1 (retV1 (by assumption)) (ret _ _ ts' p' _ _ fE hp' hdp' hb' ?_ nE) | refine use1 (retV2 (t := 0) (by assumption) (by assumption)) (ret _ _ ts' p' _ _ fE hp' hdp' hb' ?_ nE) | refine use1 (retV3 (by assumption)) (ret _ _ ts' p' _ _ fE hp' hdp' hb' ?_ nE)); exact isLex_mk)
  case turn =>
    clear F1 N1 I0 hR hpl hS ret
    rintro n m₁ led₁ h₁ tk₁ F₁ N₁ ⟨S₁, q, t, p₁, ts₁, te, st₁, tok₁, pi₁, rfl, hp₁, rfl, rfl, rfl, I₁, hM, hR₁, ht, hm1, hm2, hm3⟩
    obtain ⟨kk, jj, rfl⟩ := I₁
    have F2 := fr_map3 F₁ hm1 hm2 hm3
    clear F₁
    have hlen : (mkS ch).length = ch.length := rfl
    cases hdr : ch.drop p₁ with
    | nil =>
      have hpe : p₁ = ch.length := Nat.le_antisymm hp₁ (by have := congrArg List.length hdr; rw [List.length_drop, List.length_nil] at this; omega)
      have hlt : (p₁ : Int) = ((mkS ch).length : Int) := by rw [hlen, hpe]
      rw [hdr] at hR₁
      (k_steps; repeat' (refine Stop9.inn ?_; (first | (k_here; (with_reducible show wpAny _ _ (PySem.truthy (Value.str (mkS (_ :: _)) _)) _ _ _); k_dflt (refine KXt.truthy_pos (K := 16777216) (Nat.succ_le_succ (Nat.zero_le _)) (by first | exact Nat.le_of_ble_eq_true rfl | (refine mkS_len ?_; first | assumption | omega)) (Nat.le_refl _) ?_); intro _) | (k_here; (with_reducible show wpAny _ _ (call (Value.ref 622) _) _ _ _); k_dflt (first | (refine' read1c ?B ?F ?X ?T ?hk ?hdp ?hun ?I ?N ?P ?hx ?hp ?hpl ?_; (case B => k_asm); (case F => k_asm); (case X => k_asm); (case T => k_asm); (case hk => exact rfl); (case N => k_asm); (case I => exact isLex_mk); (case P => assumption); (case hdp => ktr_room); (case hun => ktr_units); (case hx => assumption); (case hp => omega); (case hpl => omega); k_whole; (intro led9 t9 h9 tk9 F9 I9 N9); obtain ⟨kk, jj, e9⟩ := I9; subst e9; (rename Txt.slice _ _ _ = _ => hs9); rw [hs9]; (try dsimp only)) | (refine' read1e ?B ?F ?X ?T ?hk ?hdp ?hun ?I ?N ?P ?hx ?hp ?hpl ?_; (case B => k_asm); (case F => k_asm); (case X => k_asm); (case T => k_asm); (case hk => exact rfl); (case N => k_asm); (case I => exact isLex_mk); (case P => assumption); (case hdp => ktr_room); (case hun => ktr_units); (case hx => assumption); (case hp => omega); (case hpl => omega); k_whole; (intro led9 t9 h9 tk9 F9 I9 N9); obtain ⟨kk, jj, e9⟩ := I9; subst e9; (try dsimp only))))); all_goals k_steps))
      unfold Stop9
      (rename News _ _ _ _ => N2)
      refine wpAny_If ?_
      cases S₁ <;> dsimp only [S4.val] at N2
      case nn =>
        obtain ⟨rfl, rfl⟩ := hM.nn rfl
        cases hR₁
        (k_steps; repeat' (refine Stop9.inn ?_; (first | (k_here; (with_reducible show wpAny _ _ (PySem.truthy (Value.str (mkS (_ :: _)) _)) _ _ _); k_dflt (refine KXt.truthy_pos (K := 16777216) (Nat.succ_le_succ (Nat.zero_le _)) (by first | exact Nat.le_of_ble_eq_true rfl | (refine mkS_len ?_; first | assumption | omega)) (Nat.le_refl _) ?_); intro _) | (k_here; (with_reducible show wpAny _ _ (call (Value.ref 622) _) _ _ _); k_dflt (first | (refine' read1c ?B ?F ?X ?T ?hk ?hdp ?hun ?I ?N ?P ?hx ?hp ?hpl ?_; (case B => k_asm); (case F => k_asm); (case X => k_asm); (case T => k_asm); (case hk => exact rfl); (case N => k_asm); (case I => exact isLex_mk); (case P => assumption); (case hdp => ktr_room); (case hun => ktr_units); (case hx => assumption); (case hp => omega); (case hpl => omega); k_whole; (intro led9 t9 h9 tk9 F9 I9 N9); obtain ⟨kk, jj, e9⟩ := I9; subst e9; (rename Txt.slice _ _ _ = _ => hs9); rw [hs9]; (try dsimp only)) | (refine' read1e ?B ?F ?X ?T ?hk ?hdp ?hun ?I ?N ?P ?hx ?hp ?hpl ?_; (case B => k_asm); (case F => k_asm); (case X => k_asm); (case T => k_asm); (case hk => exact rfl); (case N => k_asm); (case I => exact isLex_mk); (case P => assumption); (case hdp => ktr_room); (case hun => ktr_units); (case hx => assumption); (case hp => omega); (case hpl => omega); k_whole; (intro led9 t9 h9 tk9 F9 I9 N9); obtain ⟨kk, jj, e9⟩ := I9; subst e9; (try dsimp only))))); all_goals k_steps))
        all_goals ((rename News _ _ _ _ => nE); (rename Fr _ _ _ _ => fE); (first | exact leafB (ts := 0) (te := te) (p := p₁) fE nE hp₁ hdr rfl e0 rfl (Nat.zero_le _) isLex_mk rfl rfl rfl | exact leafB (ts := 0) (te := te) (p := p₁) fE (news_tl nE) hp₁ hdr rfl e0 rfl (Nat.zero_le _) isLex_mk rfl rfl rfl))
      case sp =>
        obtain ⟨rfl, rfl⟩ := hM.sp rfl
        cases hR₁
        (k_steps; repeat' (refine Stop9.inn ?_; (first | (k_here; (with_reducible show wpAny _ _ (PySem.truthy (Value.str (mkS (_ :: _)) _)) _ _ _); k_dflt (refine KXt.truthy_pos (K := 16777216) (Nat.succ_le_succ (Nat.zero_le _)) (by first | exact Nat.le_of_ble_eq_true rfl | (refine mkS_len ?_; first | assumption | omega)) (Nat.le_refl _) ?_); intro _) | (k_here; (with_reducible show wpAny _ _ (call (Value.ref 622) _) _ _ _); k_dflt (first | (refine' read1c ?B ?F ?X ?T ?hk ?hdp ?hun ?I ?N ?P ?hx ?hp ?hpl ?_; (case B => k_asm); (case F => k_asm); (case X => k_asm); (case T => k_asm); (case hk => exact rfl); (case N => k_asm); (case I => exact isLex_mk); (case P => assumption); (case hdp => ktr_room); (case hun => ktr_units); (case hx => assumption); (case hp => omega); (case hpl => omega); k_whole; (intro led9 t9 h9 tk9 F9 I9 N9); obtain ⟨kk, jj, e9⟩ := I9; subst e9; (rename Txt.slice _ _ _ = _ => hs9); rw [hs9]; (try dsimp only)) | (refine' read1e ?B ?F ?X ?T ?hk ?hdp ?hun ?I ?N ?P ?hx ?hp ?hpl ?_; (case B => k_asm); (case F => k_asm); (case X => k_asm); (case T => k_asm); (case hk => exact rfl); (case N => k_asm); (case I => exact isLex_mk); (case P => assumption); (case hdp => ktr_room); (case hun => ktr_units); (case hx => assumption); (case hp => omega); (case hpl => omega); k_whole; (intro led9 t9 h9 tk9 F9 I9 N9); obtain ⟨kk, jj, e9⟩ := I9; subst e9; (try dsimp only))))); all_goals k_steps))
        all_goals ((rename News _ _ _ _ => nE); (rename Fr _ _ _ _ => fE); (first | exact leafB (ts := 0) (te := te) (p := p₁) fE nE hp₁ hdr rfl rfl rfl (Nat.zero_le _) isLex_mk rfl rfl rfl | exact leafB (ts := 0) (te := te) (p := p₁) fE (news_tl nE) hp₁ hdr rfl rfl rfl (Nat.zero_le _) isLex_mk rfl rfl rfl))
      case wd =>
        cases hR₁
        have x1 := sA1
        have x2 := sA2
        (k_steps; repeat' (refine Stop9.inn ?_; (first | (k_here; (with_reducible show wpAny _ _ (PySem.truthy (Value.str (mkS (_ :: _)) _)) _ _ _); k_dflt (refine KXt.truthy_pos (K := 16777216) (Nat.succ_le_succ (Nat.zero_le _)) (by first | exact Nat.le_of_ble_eq_true rfl | (refine mkS_len ?_; first | assumption | omega)) (Nat.le_refl _) ?_); intro _) | (k_here; (with_reducible show wpAny _ _ (call (Value.ref 622) _) _ _ _); k_dflt (first | (refine' read1c ?B ?F ?X ?T ?hk ?hdp ?hun ?I ?N ?P ?hx ?hp ?hpl ?_; (case B => k_asm); (case F => k_asm); (case X => k_asm); (case T => k_asm); (case hk => exact rfl); (case N => k_asm); (case I => exact isLex_mk); (case P => assumption); (case hdp => ktr_room); (case hun => ktr_units); (case hx => assumption); (case hp => omega); (case hpl => omega); k_whole; (intro led9 t9 h9 tk9 F9 I9 N9); obtain ⟨kk, jj, e9⟩ := I9; subst e9; (rename Txt.slice _ _ _ = _ => hs9); rw [hs9]; (try dsimp only)) | (refine' read1e ?B ?F ?X ?T ?hk ?hdp ?hun ?I ?N ?P ?hx ?hp ?hpl ?_; (case B => k_asm); (case F => k_asm); (case X => k_asm); (case T => k_asm); (case hk => exact rfl); (case N => k_asm); (case I => exact isLex_mk); (case P => assumption); (case hdp => ktr_room); (case hun => ktr_units); (case hx => assumption); (case hp => omega); (case hpl => omega); k_whole; (intro led9 t9 h9 tk9 F9 I9 N9); obtain ⟨kk, jj, e9⟩ := I9; subst e9; (try dsimp only))))); all_goals k_steps))
        all_goals ((rename News _ _ _ _ => nE); (rename Fr _ _ _ _ => fE); (first | exact leafB (ts := 0) (te := te) (p := p₁) fE nE hp₁ hdr rfl rfl rfl (Nat.le_trans ht hp₁) isLex_mk rfl rfl rfl | exact leafB (ts := 0) (te := te) (p := p₁) fE (news_tl nE) hp₁ hdr rfl rfl rfl (Nat.le_trans ht hp₁) isLex_mk rfl rfl rfl))
      all_goals cases hR₁
    | cons c r =>
      have hlt : (p₁ : Int) < ((mkS ch).length : Int) := by
        have := congrArg List.length hdr
        rw [List.length_drop, List.length_cons] at this
        rw [hlen]; omega
      have hdr1 : ch.drop (p₁ + 1) = r := by
        have := congrArg List.tail hdr
        rw [List.tail_drop] at this
        exact this
      have hc : okc c := hok c (List.mem_of_mem_drop (hdr ▸ List.mem_cons_self))
      rw [hdr] at hR₁
      have hl0 : p₁ < ch.length := Int.ofNat_lt.mp hlt
      have hl1 : ch.length - (p₁ + 1) < ch.length - p₁ := Nat.sub_lt_sub_left hl0 (Nat.lt_succ_self p₁)
      have hl2 : p₁ + 1 ≤ ch.length := hl0
      have hl9 : t.length + (0 + 1) ≤ 16777216 := Nat.le_trans (Nat.succ_le_succ ht) (Nat.le_trans hl2 (Nat.le_trans hx (by decide)))
      have hsl := slice1 hdr
      have o2 := nb1 (occ0 c)
      have o3 := nb1 (occE hc.2.2.2)
      have q1 := neS e4 hc.2.1
      (k_steps; repeat' (refine Stop9.inn ?_; (first | (k_here; (with_reducible show wpAny _ _ (PySem.truthy (Value.str (mkS (_ :: _)) _)) _ _ _); k_dflt (refine KXt.truthy_pos (K := 16777216) (Nat.succ_le_succ (Nat.zero_le _)) (by first | exact Nat.le_of_ble_eq_true rfl | (refine mkS_len ?_; first | assumption | omega)) (Nat.le_refl _) ?_); intro _) | (k_here; (with_reducible show wpAny _ _ (call (Value.ref 622) _) _ _ _); k_dflt (first | (refine' read1c ?B ?F ?X ?T ?hk ?hdp ?hun ?I ?N ?P ?hx ?hp ?hpl ?_; (case B => k_asm); (case F => k_asm); (case X => k_asm); (case T => k_asm); (case hk => exact rfl); (case N => k_asm); (case I => exact isLex_mk); (case P => assumption); (case hdp => ktr_room); (case hun => ktr_units); (case hx => assumption); (case hp => omega); (case hpl => omega); k_whole; (intro led9 t9 h9 tk9 F9 I9 N9); obtain ⟨kk, jj, e9⟩ := I9; subst e9; (rename Txt.slice _ _ _ = _ => hs9); rw [hs9]; (try dsimp only)) | (refine' read1e ?B ?F ?X ?T ?hk ?hdp ?hun ?I ?N ?P ?hx ?hp ?hpl ?_; (case B => k_asm); (case F => k_asm); (case X => k_asm); (case T => k_asm); (case hk => exact rfl); (case N => k_asm); (case I => exact isLex_mk); (case P => assumption); (case hdp => ktr_room); (case hun => ktr_units); (case hx => assumption); (case hp => omega); (case hpl => omega); k_whole; (intro led9 t9 h9 tk9 F9 I9 N9); obtain ⟨kk, jj, e9⟩ := I9; subst e9; (try dsimp only))))); all_goals k_steps))
      unfold Stop9
      (rename News _ _ _ _ => N2)
      refine wpAny_If ?_
      cases S₁ <;> dsimp only [S4.val] at N2
      case nn => cases hR₁
      case sp =>
        obtain ⟨rfl, rfl⟩ := hM.sp rfl
        (k_steps; repeat' (refine Stop9.inn ?_; (first | (k_here; (with_reducible show wpAny _ _ (PySem.truthy (Value.str (mkS (_ :: _)) _)) _ _ _); k_dflt (refine KXt.truthy_pos (K := 16777216) (Nat.succ_le_succ (Nat.zero_le _)) (by first | exact Nat.le_of_ble_eq_true rfl | (refine mkS_len ?_; first | assumption | omega)) (Nat.le_refl _) ?_); intro _) | (k_here; (with_reducible show wpAny _ _ (call (Value.ref 622) _) _ _ _); k_dflt (first | (refine' read1c ?B ?F ?X ?T ?hk ?hdp ?hun ?I ?N ?P ?hx ?hp ?hpl ?_; (case B => k_asm); (case F => k_asm); (case X => k_asm); (case T => k_asm); (case hk => exact rfl); (case N => k_asm); (case I => exact isLex_mk); (case P => assumption); (case hdp => ktr_room); (case hun => ktr_units); (case hx => assumption); (case hp => omega); (case hpl => omega); k_whole; (intro led9 t9 h9 tk9 F9 I9 N9); obtain ⟨kk, jj, e9⟩ := I9; subst e9; (rename Txt.slice _ _ _ = _ => hs9); rw [hs9]; (try dsimp only)) | (refine' read1e ?B ?F ?X ?T ?hk ?hdp ?hun ?I ?N ?P ?hx ?hp ?hpl ?_; (case B => k_asm); (case F => k_asm); (case X => k_asm); (case T => k_asm); (case hk => exact rfl); (case N => k_asm); (case I => exact isLex_mk); (case P => assumption); (case hdp => ktr_room); (case hun => ktr_units); (case hx => assumption); (case hp => omega); (case hpl => omega); k_whole; (intro led9 t9 h9 tk9 F9 I9 N9); obtain ⟨kk, jj, e9⟩ := I9; subst e9; (try dsimp only))))); all_goals k_steps))
        all_goals ((rename News _ _ _ _ => nE); (rename Fr _ _ _ _ => fE); (first
          | (first | exact leafN fE nE hl1 (loopJ_mk S4.sp false [] (te := te) (p₁ + 1) hl2 rfl rfl pS isLex_mk midP (rd9 hdr1 (rsp1 (isW hc (by assumption)) hR₁)) (Nat.zero_le _) rfl rfl rfl) | exact leafC fE nE hl1 (loopJ_mk S4.sp false [] (te := te) (p₁ + 1) hl2 rfl rfl pS isLex_mk midP (rd9 hdr1 (rsp1 (isW hc (by assumption)) hR₁)) (Nat.zero_le _) rfl rfl rfl) | exact leafN fE (news_tl nE) hl1 (loopJ_mk S4.sp false [] (te := te) (p₁ + 1) hl2 rfl rfl pS isLex_mk midP (rd9 hdr1 (rsp1 (isW hc (by assumption)) hR₁)) (Nat.zero_le _) rfl rfl rfl) | exact leafC fE (news_tl nE) hl1 (loopJ_mk S4.sp false [] (te := te) (p₁ + 1) hl2 rfl rfl pS isLex_mk midP (rd9 hdr1 (rsp1 (isW hc (by assumption)) hR₁)) (Nat.zero_le _) rfl rfl rfl))
          | (first | exact leafN fE nE hl1 (loopJ_mk S4.wd false [c] (te := te) (p₁ + 1) hl2 rfl rfl pS isLex_mk (midW (.inl (List.cons_ne_nil _ _))) (rd9 hdr1 (rsp4 (noW (by assumption)) (noC1 (by assumption)) (noC2 (by assumption)) hR₁)) (Nat.succ_le_succ (Nat.zero_le _)) rfl rfl rfl) | exact leafC fE nE hl1 (loopJ_mk S4.wd false [c] (te := te) (p₁ + 1) hl2 rfl rfl pS isLex_mk (midW (.inl (List.cons_ne_nil _ _))) (rd9 hdr1 (rsp4 (noW (by assumption)) (noC1 (by assumption)) (noC2 (by assumption)) hR₁)) (Nat.succ_le_succ (Nat.zero_le _)) rfl rfl rfl) | exact leafN fE (news_tl nE) hl1 (loopJ_mk S4.wd false [c] (te := te) (p₁ + 1) hl2 rfl rfl pS isLex_mk (midW (.inl (List.cons_ne_nil _ _))) (rd9 hdr1 (rsp4 (noW (by assumption)) (noC1 (by assumption)) (noC2 (by assumption)) hR₁)) (Nat.succ_le_succ (Nat.zero_le _)) rfl rfl rfl) | exact leafC fE (news_tl nE) hl1 (loopJ_mk S4.wd false [c] (te := te) (p₁ + 1) hl2 rfl rfl pS isLex_mk (midW (.inl (List.cons_ne_nil _ _))) (rd9 hdr1 (rsp4 (noW (by assumption)) (noC1 (by assumption)) (noC2 (by assumption)) hR₁)) (Nat.succ_le_succ (Nat.zero_le _)) rfl rfl rfl))
          | (first | exact leafN fE nE hl1 (loopJ_mk S4.wd false [c] (te := te) (p₁ + 1) hl2 rfl rfl pS isLex_mk (midW (.inl (List.cons_ne_nil _ _))) (rd9 hdr1 (rsp4 (noW (by assumption)) (noQ1 (by assumption)) (noQ2 (by assumption)) hR₁)) (Nat.succ_le_succ (Nat.zero_le _)) rfl rfl rfl) | exact leafC fE nE hl1 (loopJ_mk S4.wd false [c] (te := te) (p₁ + 1) hl2 rfl rfl pS isLex_mk (midW (.inl (List.cons_ne_nil _ _))) (rd9 hdr1 (rsp4 (noW (by assumption)) (noQ1 (by assumption)) (noQ2 (by assumption)) hR₁)) (Nat.succ_le_succ (Nat.zero_le _)) rfl rfl rfl) | exact leafN fE (news_tl nE) hl1 (loopJ_mk S4.wd false [c] (te := te) (p₁ + 1) hl2 rfl rfl pS isLex_mk (midW (.inl (List.cons_ne_nil _ _))) (rd9 hdr1 (rsp4 (noW (by assumption)) (noQ1 (by assumption)) (noQ2 (by assumption)) hR₁)) (Nat.succ_le_succ (Nat.zero_le _)) rfl rfl rfl) | exact leafC fE (news_tl nE) hl1 (loopJ_mk S4.wd false [c] (te := te) (p₁ + 1) hl2 rfl rfl pS isLex_mk (midW (.inl (List.cons_ne_nil _ _))) (rd9 hdr1 (rsp4 (noW (by assumption)) (noQ1 (by assumption)) (noQ2 (by assumption)) hR₁)) (Nat.succ_le_succ (Nat.zero_le _)) rfl rfl rfl))
          | (rcases isQ (by assumption) with h9 | h9
             · (first | exact leafN fE nE hl1 (loopJ_mk S4.dq false [] (te := te) (p₁ + 1) hl2 (vD h9 _) rfl pS isLex_mk midD (rd9 hdr1 (rsp2 h9 hR₁)) (Nat.zero_le _) rfl rfl rfl) | exact leafC fE nE hl1 (loopJ_mk S4.dq false [] (te := te) (p₁ + 1) hl2 (vD h9 _) rfl pS isLex_mk midD (rd9 hdr1 (rsp2 h9 hR₁)) (Nat.zero_le _) rfl rfl rfl) | exact leafN fE (news_tl nE) hl1 (loopJ_mk S4.dq false [] (te := te) (p₁ + 1) hl2 (vD h9 _) rfl pS isLex_mk midD (rd9 hdr1 (rsp2 h9 hR₁)) (Nat.zero_le _) rfl rfl rfl) | exact leafC fE (news_tl nE) hl1 (loopJ_mk S4.dq false [] (te := te) (p₁ + 1) hl2 (vD h9 _) rfl pS isLex_mk midD (rd9 hdr1 (rsp2 h9 hR₁)) (Nat.zero_le _) rfl rfl rfl))
             · (first | exact leafN fE nE hl1 (loopJ_mk S4.sq false [] (te := te) (p₁ + 1) hl2 (vS h9 _) rfl pS isLex_mk midS (rd9 hdr1 (rsp3 h9 hR₁)) (Nat.zero_le _) rfl rfl rfl) | exact leafC fE nE hl1 (loopJ_mk S4.sq false [] (te := te) (p₁ + 1) hl2 (vS h9 _) rfl pS isLex_mk midS (rd9 hdr1 (rsp3 h9 hR₁)) (Nat.zero_le _) rfl rfl rfl) | exact leafN fE (news_tl nE) hl1 (loopJ_mk S4.sq false [] (te := te) (p₁ + 1) hl2 (vS h9 _) rfl pS isLex_mk midS (rd9 hdr1 (rsp3 h9 hR₁)) (Nat.zero_le _) rfl rfl rfl) | exact leafC fE (news_tl nE) hl1 (loopJ_mk S4.sq false [] (te := te) (p₁ + 1) hl2 (vS h9 _) rfl pS isLex_mk midS (rd9 hdr1 (rsp3 h9 hR₁)) (Nat.zero_le _) rfl rfl rfl)))))
      case wd =>
        have x1 := sA1
        have x2 := sA2
        (k_steps; repeat' (refine Stop9.inn ?_; (first | (k_here; (with_reducible show wpAny _ _ (PySem.truthy (Value.str (mkS (_ :: _)) _)) _ _ _); k_dflt (refine KXt.truthy_pos (K := 16777216) (Nat.succ_le_succ (Nat.zero_le _)) (by first | exact Nat.le_of_ble_eq_true rfl | (refine mkS_len ?_; first | assumption | omega)) (Nat.le_refl _) ?_); intro _) | (k_here; (with_reducible show wpAny _ _ (call (Value.ref 622) _) _ _ _); k_dflt (first | (refine' read1c ?B ?F ?X ?T ?hk ?hdp ?hun ?I ?N ?P ?hx ?hp ?hpl ?_; (case B => k_asm); (case F => k_asm); (case X => k_asm); (case T => k_asm); (case hk => exact rfl); (case N => k_asm); (case I => exact isLex_mk); (case P => assumption); (case hdp => ktr_room); (case hun => ktr_units); (case hx => assumption); (case hp => omega); (case hpl => omega); k_whole; (intro led9 t9 h9 tk9 F9 I9 N9); obtain ⟨kk, jj, e9⟩ := I9; subst e9; (rename Txt.slice _ _ _ = _ => hs9); rw [hs9]; (try dsimp only)) | (refine' read1e ?B ?F ?X ?T ?hk ?hdp ?hun ?I ?N ?P ?hx ?hp ?hpl ?_; (case B => k_asm); (case F => k_asm); (case X => k_asm); (case T => k_asm); (case hk => exact rfl); (case N => k_asm); (case I => exact isLex_mk); (case P => assumption); (case hdp => ktr_room); (case hun => ktr_units); (case hx => assumption); (case hp => omega); (case hpl => omega); k_whole; (intro led9 t9 h9 tk9 F9 I9 N9); obtain ⟨kk, jj, e9⟩ := I9; subst e9; (try dsimp only))))); all_goals k_steps))
        all_goals (first
          | (have h9 := rwd1 (isW hc (by assumption)) hR₁
             cases h9
             cases t with
             | nil =>
               obtain rfl : q = true := (hM.wd rfl).resolve_left (fun h => h rfl)
               (k_steps; repeat' (refine Stop9.inn ?_; (first | (k_here; (with_reducible show wpAny _ _ (PySem.truthy (Value.str (mkS (_ :: _)) _)) _ _ _); k_dflt (refine KXt.truthy_pos (K := 16777216) (Nat.succ_le_succ (Nat.zero_le _)) (by first | exact Nat.le_of_ble_eq_true rfl | (refine mkS_len ?_; first | assumption | omega)) (Nat.le_refl _) ?_); intro _) | (k_here; (with_reducible show wpAny _ _ (call (Value.ref 622) _) _ _ _); k_dflt (first | (refine' read1c ?B ?F ?X ?T ?hk ?hdp ?hun ?I ?N ?P ?hx ?hp ?hpl ?_; (case B => k_asm); (case F => k_asm); (case X => k_asm); (case T => k_asm); (case hk => exact rfl); (case N => k_asm); (case I => exact isLex_mk); (case P => assumption); (case hdp => ktr_room); (case hun => ktr_units); (case hx => assumption); (case hp => omega); (case hpl => omega); k_whole; (intro led9 t9 h9 tk9 F9 I9 N9); obtain ⟨kk, jj, e9⟩ := I9; subst e9; (rename Txt.slice _ _ _ = _ => hs9); rw [hs9]; (try dsimp only)) | (refine' read1e ?B ?F ?X ?T ?hk ?hdp ?hun ?I ?N ?P ?hx ?hp ?hpl ?_; (case B => k_asm); (case F => k_asm); (case X => k_asm); (case T => k_asm); (case hk => exact rfl); (case N => k_asm); (case I => exact isLex_mk); (case P => assumption); (case hdp => ktr_room); (case hun => ktr_units); (case hx => assumption); (case hp => omega); (case hpl => omega); k_whole; (intro led9 t9 h9 tk9 F9 I9 N9); obtain ⟨kk, jj, e9⟩ := I9; subst e9; (try dsimp only))))); all_goals k_steps))
               all_goals ((rename News _ _ _ _ => nE); (rename Fr _ _ _ _ => fE); (first | exact leafB (te := te) (p := p₁ + 1) fE nE hl2 hdr1 rfl rfl pS (Nat.zero_le _) isLex_mk rfl rfl rfl | exact leafB (te := te) (p := p₁ + 1) fE (news_tl nE) hl2 hdr1 rfl rfl pS (Nat.zero_le _) isLex_mk rfl rfl rfl))
             | cons c0 t0 =>
               (k_steps; repeat' (refine Stop9.inn ?_; (first | (k_here; (with_reducible show wpAny _ _ (PySem.truthy (Value.str (mkS (_ :: _)) _)) _ _ _); k_dflt (refine KXt.truthy_pos (K := 16777216) (Nat.succ_le_succ (Nat.zero_le _)) (by first | exact Nat.le_of_ble_eq_true rfl | (refine mkS_len ?_; first | assumption | omega)) (Nat.le_refl _) ?_); intro _) | (k_here; (with_reducible show wpAny _ _ (call (Value.ref 622) _) _ _ _); k_dflt (first | (refine' read1c ?B ?F ?X ?T ?hk ?hdp ?hun ?I ?N ?P ?hx ?hp ?hpl ?_; (case B => k_asm); (case F => k_asm); (case X => k_asm); (case T => k_asm); (case hk => exact rfl); (case N => k_asm); (case I => exact isLex_mk); (case P => assumption); (case hdp => ktr_room); (case hun => ktr_units); (case hx => assumption); (case hp => omega); (case hpl => omega); k_whole; (intro led9 t9 h9 tk9 F9 I9 N9); obtain ⟨kk, jj, e9⟩ := I9; subst e9; (rename Txt.slice _ _ _ = _ => hs9); rw [hs9]; (try dsimp only)) | (refine' read1e ?B ?F ?X ?T ?hk ?hdp ?hun ?I ?N ?P ?hx ?hp ?hpl ?_; (case B => k_asm); (case F => k_asm); (case X => k_asm); (case T => k_asm); (case hk => exact rfl); (case N => k_asm); (case I => exact isLex_mk); (case P => assumption); (case hdp => ktr_room); (case hun => ktr_units); (case hx => assumption); (case hp => omega); (case hpl => omega); k_whole; (intro led9 t9 h9 tk9 F9 I9 N9); obtain ⟨kk, jj, e9⟩ := I9; subst e9; (try dsimp only))))); all_goals k_steps))
               all_goals ((rename News _ _ _ _ => nE); (rename Fr _ _ _ _ => fE); (first | exact leafB (te := te) (p := p₁ + 1) fE nE hl2 hdr1 rfl rfl pS (Nat.le_trans ht hp₁) isLex_mk rfl rfl rfl | exact leafB (te := te) (p := p₁ + 1) fE (news_tl nE) hl2 hdr1 rfl rfl pS (Nat.le_trans ht hp₁) isLex_mk rfl rfl rfl)))
          | ((rename News _ _ _ _ => nE); (rename Fr _ _ _ _ => fE); (first
            | (first | exact leafN fE nE hl1 (loopJ_mk S4.wd q (t ++ [c]) (te := te) (p₁ + 1) hl2 rfl (str_app t c) pS isLex_mk midA (rd9 hdr1 (rwd4 (noW (by assumption)) (noQ1 (by assumption)) (noQ2 (by assumption)) hR₁)) (lenA ht) rfl rfl rfl) | exact leafC fE nE hl1 (loopJ_mk S4.wd q (t ++ [c]) (te := te) (p₁ + 1) hl2 rfl (str_app t c) pS isLex_mk midA (rd9 hdr1 (rwd4 (noW (by assumption)) (noQ1 (by assumption)) (noQ2 (by assumption)) hR₁)) (lenA ht) rfl rfl rfl) | exact leafN fE (news_tl nE) hl1 (loopJ_mk S4.wd q (t ++ [c]) (te := te) (p₁ + 1) hl2 rfl (str_app t c) pS isLex_mk midA (rd9 hdr1 (rwd4 (noW (by assumption)) (noQ1 (by assumption)) (noQ2 (by assumption)) hR₁)) (lenA ht) rfl rfl rfl) | exact leafC fE (news_tl nE) hl1 (loopJ_mk S4.wd q (t ++ [c]) (te := te) (p₁ + 1) hl2 rfl (str_app t c) pS isLex_mk midA (rd9 hdr1 (rwd4 (noW (by assumption)) (noQ1 (by assumption)) (noQ2 (by assumption)) hR₁)) (lenA ht) rfl rfl rfl))
            | (rcases isQ (by assumption) with h9 | h9
               · (first | exact leafN fE nE hl1 (loopJ_mk S4.dq q t (te := te) (p₁ + 1) hl2 (vD h9 _) rfl pS isLex_mk midD (rd9 hdr1 (rwd2 h9 hR₁)) (Nat.le_succ_of_le ht) rfl rfl rfl) | exact leafC fE nE hl1 (loopJ_mk S4.dq q t (te := te) (p₁ + 1) hl2 (vD h9 _) rfl pS isLex_mk midD (rd9 hdr1 (rwd2 h9 hR₁)) (Nat.le_succ_of_le ht) rfl rfl rfl) | exact leafN fE (news_tl nE) hl1 (loopJ_mk S4.dq q t (te := te) (p₁ + 1) hl2 (vD h9 _) rfl pS isLex_mk midD (rd9 hdr1 (rwd2 h9 hR₁)) (Nat.le_succ_of_le ht) rfl rfl rfl) | exact leafC fE (news_tl nE) hl1 (loopJ_mk S4.dq q t (te := te) (p₁ + 1) hl2 (vD h9 _) rfl pS isLex_mk midD (rd9 hdr1 (rwd2 h9 hR₁)) (Nat.le_succ_of_le ht) rfl rfl rfl))
               · (first | exact leafN fE nE hl1 (loopJ_mk S4.sq q t (te := te) (p₁ + 1) hl2 (vS h9 _) rfl pS isLex_mk midS (rd9 hdr1 (rwd3 h9 hR₁)) (Nat.le_succ_of_le ht) rfl rfl rfl) | exact leafC fE nE hl1 (loopJ_mk S4.sq q t (te := te) (p₁ + 1) hl2 (vS h9 _) rfl pS isLex_mk midS (rd9 hdr1 (rwd3 h9 hR₁)) (Nat.le_succ_of_le ht) rfl rfl rfl) | exact leafN fE (news_tl nE) hl1 (loopJ_mk S4.sq q t (te := te) (p₁ + 1) hl2 (vS h9 _) rfl pS isLex_mk midS (rd9 hdr1 (rwd3 h9 hR₁)) (Nat.le_succ_of_le ht) rfl rfl rfl) | exact leafC fE (news_tl nE) hl1 (loopJ_mk S4.sq q t (te := te) (p₁ + 1) hl2 (vS h9 _) rfl pS isLex_mk midS (rd9 hdr1 (rwd3 h9 hR₁)) (Nat.le_succ_of_le ht) rfl rfl rfl))))))
      case dq =>
        have x1 := sD1
        (k_steps; repeat' (refine Stop9.inn ?_; (first | (k_here; (with_reducible show wpAny _ _ (PySem.truthy (Value.str (mkS (_ :: _)) _)) _ _ _); k_dflt (refine KXt.truthy_pos (K := 16777216) (Nat.succ_le_succ (Nat.zero_le _)) (by first | exact Nat.le_of_ble_eq_true rfl | (refine mkS_len ?_; first | assumption | omega)) (Nat.le_refl _) ?_); intro _) | (k_here; (with_reducible show wpAny _ _ (call (Value.ref 622) _) _ _ _); k_dflt (first | (refine' read1c ?B ?F ?X ?T ?hk ?hdp ?hun ?I ?N ?P ?hx ?hp ?hpl ?_; (case B => k_asm); (case F => k_asm); (case X => k_asm); (case T => k_asm); (case hk => exact rfl); (case N => k_asm); (case I => exact isLex_mk); (case P => assumption); (case hdp => ktr_room); (case hun => ktr_units); (case hx => assumption); (case hp => omega); (case hpl => omega); k_whole; (intro led9 t9 h9 tk9 F9 I9 N9); obtain ⟨kk, jj, e9⟩ := I9; subst e9; (rename Txt.slice _ _ _ = _ => hs9); rw [hs9]; (try dsimp only)) | (refine' read1e ?B ?F ?X ?T ?hk ?hdp ?hun ?I ?N ?P ?hx ?hp ?hpl ?_; (case B => k_asm); (case F => k_asm); (case X => k_asm); (case T => k_asm); (case hk => exact rfl); (case N => k_asm); (case I => exact isLex_mk); (case P => assumption); (case hdp => ktr_room); (case hun => ktr_units); (case hx => assumption); (case hp => omega); (case hpl => omega); k_whole; (intro led9 t9 h9 tk9 F9 I9 N9); obtain ⟨kk, jj, e9⟩ := I9; subst e9; (try dsimp only))))); all_goals k_steps))
        all_goals ((rename News _ _ _ _ => nE); (rename Fr _ _ _ _ => fE); (first
          | (first | exact leafN fE nE hl1 (loopJ_mk S4.wd true t (te := te) (p₁ + 1) hl2 rfl rfl pS isLex_mk (midW (.inr rfl)) (rd9 hdr1 (rdq1 (isD (by assumption)) hR₁)) (Nat.le_succ_of_le ht) rfl rfl rfl) | exact leafC fE nE hl1 (loopJ_mk S4.wd true t (te := te) (p₁ + 1) hl2 rfl rfl pS isLex_mk (midW (.inr rfl)) (rd9 hdr1 (rdq1 (isD (by assumption)) hR₁)) (Nat.le_succ_of_le ht) rfl rfl rfl) | exact leafN fE (news_tl nE) hl1 (loopJ_mk S4.wd true t (te := te) (p₁ + 1) hl2 rfl rfl pS isLex_mk (midW (.inr rfl)) (rd9 hdr1 (rdq1 (isD (by assumption)) hR₁)) (Nat.le_succ_of_le ht) rfl rfl rfl) | exact leafC fE (news_tl nE) hl1 (loopJ_mk S4.wd true t (te := te) (p₁ + 1) hl2 rfl rfl pS isLex_mk (midW (.inr rfl)) (rd9 hdr1 (rdq1 (isD (by assumption)) hR₁)) (Nat.le_succ_of_le ht) rfl rfl rfl))
          | (first | exact leafN fE nE hl1 (loopJ_mk S4.dq true (t ++ [c]) (te := te) (p₁ + 1) hl2 rfl (str_app t c) pS isLex_mk midD (rd9 hdr1 (rdq2 (noD (by assumption)) hR₁)) (lenA ht) rfl rfl rfl) | exact leafC fE nE hl1 (loopJ_mk S4.dq true (t ++ [c]) (te := te) (p₁ + 1) hl2 rfl (str_app t c) pS isLex_mk midD (rd9 hdr1 (rdq2 (noD (by assumption)) hR₁)) (lenA ht) rfl rfl rfl) | exact leafN fE (news_tl nE) hl1 (loopJ_mk S4.dq true (t ++ [c]) (te := te) (p₁ + 1) hl2 rfl (str_app t c) pS isLex_mk midD (rd9 hdr1 (rdq2 (noD (by assumption)) hR₁)) (lenA ht) rfl rfl rfl) | exact leafC fE (news_tl nE) hl1 (loopJ_mk S4.dq true (t ++ [c]) (te := te) (p₁ + 1) hl2 rfl (str_app t c) pS isLex_mk midD (rd9 hdr1 (rdq2 (noD (by assumption)) hR₁)) (lenA ht) rfl rfl rfl))))
      case sq =>
        have x1 := sS1
        (k_steps; repeat' (refine Stop9.inn ?_; (first | (k_here; (with_reducible show wpAny _ _ (PySem.truthy (Value.str (mkS (_ :: _)) _)) _ _ _); k_dflt (refine KXt.truthy_pos (K := 16777216) (Nat.succ_le_succ (Nat.zero_le _)) (by first | exact Nat.le_of_ble_eq_true rfl | (refine mkS_len ?_; first | assumption | omega)) (Nat.le_refl _) ?_); intro _) | (k_here; (with_reducible show wpAny _ _ (call (Value.ref 622) _) _ _ _); k_dflt (first | (refine' read1c ?B ?F ?X ?T ?hk ?hdp ?hun ?I ?N ?P ?hx ?hp ?hpl ?_; (case B => k_asm); (case F => k_asm); (case X => k_asm); (case T => k_asm); (case hk => exact rfl); (case N => k_asm); (case I => exact isLex_mk); (case P => assumption); (case hdp => ktr_room); (case hun => ktr_units); (case hx => assumption); (case hp => omega); (case hpl => omega); k_whole; (intro led9 t9 h9 tk9 F9 I9 N9); obtain ⟨kk, jj, e9⟩ := I9; subst e9; (rename Txt.slice _ _ _ = _ => hs9); rw [hs9]; (try dsimp only)) | (refine' read1e ?B ?F ?X ?T ?hk ?hdp ?hun ?I ?N ?P ?hx ?hp ?hpl ?_; (case B => k_asm); (case F => k_asm); (case X => k_asm); (case T => k_asm); (case hk => exact rfl); (case N => k_asm); (case I => exact isLex_mk); (case P => assumption); (case hdp => ktr_room); (case hun => ktr_units); (case hx => assumption); (case hp => omega); (case hpl => omega); k_whole; (intro led9 t9 h9 tk9 F9 I9 N9); obtain ⟨kk, jj, e9⟩ := I9; subst e9; (try dsimp only))))); all_goals k_steps))
        all_goals ((rename News _ _ _ _ => nE); (rename Fr _ _ _ _ => fE); (first
          | (first | exact leafN fE nE hl1 (loopJ_mk S4.wd true t (te := te) (p₁ + 1) hl2 rfl rfl pS isLex_mk (midW (.inr rfl)) (rd9 hdr1 (rsq1 (isS (by assumption)) hR₁)) (Nat.le_succ_of_le ht) rfl rfl rfl) | exact leafC fE nE hl1 (loopJ_mk S4.wd true t (te := te) (p₁ + 1) hl2 rfl rfl pS isLex_mk (midW (.inr rfl)) (rd9 hdr1 (rsq1 (isS (by assumption)) hR₁)) (Nat.le_succ_of_le ht) rfl rfl rfl) | exact leafN fE (news_tl nE) hl1 (loopJ_mk S4.wd true t (te := te) (p₁ + 1) hl2 rfl rfl pS isLex_mk (midW (.inr rfl)) (rd9 hdr1 (rsq1 (isS (by assumption)) hR₁)) (Nat.le_succ_of_le ht) rfl rfl rfl) | exact leafC fE (news_tl nE) hl1 (loopJ_mk S4.wd true t (te := te) (p₁ + 1) hl2 rfl rfl pS isLex_mk (midW (.inr rfl)) (rd9 hdr1 (rsq1 (isS (by assumption)) hR₁)) (Nat.le_succ_of_le ht) rfl rfl rfl))
          | (first | exact leafN fE nE hl1 (loopJ_mk S4.sq true (t ++ [c]) (te := te) (p₁ + 1) hl2 rfl (str_app t c) pS isLex_mk midS (rd9 hdr1 (rsq2 (noS (by assumption)) hR₁)) (lenA ht) rfl rfl rfl) | exact leafC fE nE hl1 (loopJ_mk S4.sq true (t ++ [c]) (te := te) (p₁ + 1) hl2 rfl (str_app t c) pS isLex_mk midS (rd9 hdr1 (rsq2 (noS (by assumption)) hR₁)) (lenA ht) rfl rfl rfl) | exact leafN fE (news_tl nE) hl1 (loopJ_mk S4.sq true (t ++ [c]) (te := te) (p₁ + 1) hl2 rfl (str_app t c) pS isLex_mk midS (rd9 hdr1 (rsq2 (noS (by assumption)) hR₁)) (lenA ht) rfl rfl rfl) | exact leafC fE (news_tl nE) hl1 (loopJ_mk S4.sq true (t ++ [c]) (te := te) (p₁ + 1) hl2 rfl (str_app t c) pS isLex_mk midS (rd9 hdr1 (rsq2 (noS (by assumption)) hR₁)) (lenA ht) rfl rfl rfl))))
end
end

section
section
variable {w : World} {pg : Program} {lz : List Str} {mean : ExcName → Option Value} {mg mb : Str → Option Value} {dp un : Nat} {gd : Option (List Code)} {cn : Str} {cs : Scope} {a : Addr} {ccd : Value} {cl : List (Str × Addr)} {outer : List Env} {A₀ : Around} {base h₀ : Heap} {L : Addr} {m : Str → Option Value} {s : Shared} {Q E : Value → Shared → Prop}
theorem get_token {xa xd sa sd pb fs : Nat} {S : S4} {ts : Tok} {ch : List Nat} {p : Nat} {ex led : List (Addr × Obj)} {R : Out4}
   (B : Below A₀ base outer h₀) (F : Fr h₀ L s.heap m) (X : (KY w.params).In h₀) (T : Top pg lz mean mg mb h₀) (hk : cs.kind = .function)
   (hdp : dp + 40 ≤ 700) (hun : un + 300 ≤ 4000) (I : IsLex w xa xd sa sd pb fs (S.val ts) (Str.ofString "") (mkS ch) p ex led) (N : News h₀ L s.heap led) (P : Apart xa xd sa sd pb fs ex)
   (hx : (mkS ch).length ≤ 100000) (hpl : p ≤ ch.length) (hS : S = .nn ∨ S = .sp) (hR : rd S false [] (ch.drop p) = some R) (hok : ∀ c ∈ ch, okc c)
   (ret : ∀ (led' : List (Addr × Obj)) (t : Tok) (p' : Nat) (h' : Heap) (tk' : Nat), Fr h₀ L h' m → News h₀ L h' led' → ch.drop p' = R.rest → p' ≤ ch.length → R.tok.length ≤ ch.length → (∃ ts', IsLex w xa xd sa sd pb fs ((if R.eof then S4.nn else S4.sp).val ts') (Str.ofString "") (mkS ch) p' ex led') → Q (retV R t) { s with heap := h', toks := tk' }) :
   wpAny (model PySem.Challenge.rw_nq0264_01.prog w) (ktrTop dp un gd cn cs L a ccd cl outer) (call (.ref 772) [.ref xa]) Q E s := by
  have st0 : ∀ M A a Q E s, Nonempty (StopP (wpAny M A (PySem.truthy (Value.ref a)) Q E s)) := by intros; exact StopP.mk
  have st1 : ∀ M A as ks Q E s, Nonempty (StopP (wpAny M A (call (Value.ref 779) as ks) Q E s)) := by intros; exact StopP.mk
  have PP := P
  have I0 := I
  obtain ⟨kk, jj, rfl⟩ := I
  obtain ⟨c1, c2, c3, c4, c5, d1, d3, d4, d5, a6, a7⟩ := P
  w_on
  refine wpAny_call ?_
  k_dflt cell_enter
  (k_steps; repeat' (refine Stop9.inn ?_; (first | ((with_reducible show wpAny _ _ (PySem.truthy _) _ _ _); k_here; k_dflt (refine' truthy_dq ?ha ?h1 ?h2 ?h3 ?_; (case ha => exact News.get (by k_asm) (by k_mem)); (case h1 => exact rfl); (case h2 => ktr_room); (case h3 => ktr_room); k_whole); intro _; (try dsimp only)) | (k_here; (with_reducible show wpAny _ _ (call (Value.ref 779) _) _ _ _); k_dflt (refine' read_token ?B ?F ?X ?T ?hk ?hdp ?hun ?I ?N ?P ?hx ?hpl ?hS ?hR ?hok ?_; (case B => k_asm); (case F => k_asm); (case X => k_asm); (case T => k_asm); (case hk => exact rfl); (case N => k_asm); (case I => exact isLex_mk); (case P => assumption); (case hdp => ktr_room); (case hun => ktr_units); (case hx => assumption); (case hpl => assumption); (case hS => assumption); (case hR => assumption); (case hok => assumption); k_whole; intro _ tv9 _ _ _ _ _ _ _ _ I9 _; obtain ⟨kk, jj, e9⟩ := I9; subst e9; (rcases retV_or _ tv9 with e8 | e8); (all_goals (rw [e8]; (try dsimp only)))))); all_goals k_steps))
  all_goals ((rename News _ _ _ _ => nE); (rename Fr _ _ _ _ => fE); (rename retV _ _ = _ => e9); (rename List.drop _ _ = Out4.rest _ => d9); exact use1 e9 (ret _ _ _ _ _ fE nE d9 (by assumption) (by assumption) ⟨_, isLex_mk⟩))
end
end

section
section
variable {w : World} {pg : Program} {lz : List Str} {mean : ExcName → Option Value} {mg mb : Str → Option Value} {dp un : Nat} {gd : Option (List Code)} {cn : Str} {cs : Scope} {a : Addr} {ccd : Value} {cl : List (Str × Addr)} {outer : List Env} {A₀ : Around} {base h₀ : Heap} {L : Addr} {m : Str → Option Value} {s : Shared} {Q E : Value → Shared → Prop}
local macro_rules | `(tactic| walk_at "leaving ref") => `(tactic| (k_here; (refine' leave_raiseS ?k1 ?k0 ?k2 ?k3 ?_; (case k0 => first | assumption | exact Heap.MadeExc.of (by assumption)); (case k2 => assumption); (case k1 => assumption); (case k3 => k_asm); k_whole; intro h' t' RS' R' U'; clear R'; (try dsimp only at RS' U' ⊢))))
theorem next_lex {Q : Option Value → Shared → Prop} {xa xd sa sd pb fs : Nat} {S : S4} {ts : Tok} {ch : List Nat} {p : Nat} {ex led : List (Addr × Obj)} {R : Out4}
   (B : Below A₀ base outer h₀) (F : Fr h₀ L s.heap m) (X : (KY w.params).In h₀) (T : Top pg lz mean mg mb h₀) (hk : cs.kind = .function)
   (hdp : dp + 50 ≤ 700) (hun : un + 350 ≤ 4000) (I : IsLex w xa xd sa sd pb fs (S.val ts) (Str.ofString "") (mkS ch) p ex led) (N : News h₀ L s.heap led) (P : Apart xa xd sa sd pb fs ex)
   (hx : (mkS ch).length ≤ 100000) (hpl : p ≤ ch.length) (hS : S = .nn ∨ S = .sp) (hR : rd S false [] (ch.drop p) = some R) (hok : ∀ c ∈ ch, okc c)
   (retN : R.q = false ∧ R.tok = [] → ∀ (g' h' : Heap) (tk' : Nat), KtsTurn (outer.filterMap (·.frame)) h₀ g' → Fr g' L h' m → Below A₀ base outer g' → News g' L h' ex → Q none { s with heap := h', toks := tk' })
   (ret : ¬ (R.q = false ∧ R.tok = []) → ∀ (led' : List (Addr × Obj)) (t : Tok) (p' : Nat) (h' : Heap) (tk' : Nat), Fr h₀ L h' m → News h₀ L h' led' → ch.drop p' = R.rest → p' ≤ ch.length → R.tok.length ≤ ch.length → (∃ ts', IsLex w xa xd sa sd pb fs ((if R.eof then S4.nn else S4.sp).val ts') (Str.ofString "") (mkS ch) p' ex led') → Q (some (.str (mkS R.tok) t)) { s with heap := h', toks := tk' }) :
   wpAny (model PySem.Challenge.rw_nq0264_01.prog w) (ktrTop dp un gd cn cs L a ccd [] outer) (pyNext (.ref xa)) Q E s := by
  have st0 : ∀ M A as ks Q E s, Nonempty (StopP (wpAny M A (call (Value.ref 772) as ks) Q E s)) := by intros; exact StopP.mk
  have PP := P
  obtain ⟨kk, jj, rfl⟩ := I
  obtain ⟨c1, c2, c3, c4, c5, d1, d3, d4, d5, a6, a7⟩ := P
  w_on
  k_dflt (refine' owit_next ?F ?X ?I ?hs ?hf ?_; (case F => k_asm); (case X => k_asm); (case I => k_inst); (case hs => k_is); (case hf => k_is))
  refine wpAny_call ?_
  k_dflt cell_enter
  (k_steps; repeat' (refine Stop9.inn ?_; (k_here; (with_reducible show wpAny _ _ (call (Value.ref 772) _) _ _ _); k_dflt (refine' get_token ?B ?F ?X ?T ?hk ?hdp ?hun ?I ?N ?P ?hx ?hpl ?hS ?hR ?hok ?_; (case B => k_asm); (case F => k_asm); (case X => k_asm); (case T => k_asm); (case hk => exact rfl); (case N => k_asm); (case I => exact isLex_mk); (case P => assumption); (case hdp => ktr_room); (case hun => ktr_room); (case hx => assumption); (case hpl => assumption); (case hS => assumption); (case hR => assumption); (case hok => assumption); k_whole; intro _ tv9 _ _ _ _ _ _ _ _ I8; obtain ⟨ts9, I9⟩ := I8; obtain ⟨kk, jj, e9⟩ := I9; subst e9; (rcases retV_or _ tv9 with e8 | e8); (all_goals (rw [e8]; (try dsimp only))))); all_goals k_steps))
  · (rename RaisedS _ _ _ _ _ _ _ _ _ => rE)
    (rename Heap.UpToSlots _ _ => uE)
    (rename retV _ _ = _ => e9)
    refine owit_stopS rE uE (by assumption) B (by first | rfl | kernel_rfl) fun g' T' F' K' N' => ?_
    exact retN (retV_n e9) g' _ _ T' F' K' (fun q hq => N' q (by simp [hq]))
  · (rename News _ _ _ _ => nE)
    (rename Fr _ _ _ _ => fE)
    (rename retV _ _ = _ => e9)
    (rename List.drop _ _ = Out4.rest _ => d9)
    exact ret (retV_s e9) _ _ _ _ _ fE nE d9 (by assumption) (by assumption) ⟨_, isLex_mk⟩
end
end

section
section
variable {w : World} {pg : Program} {lz : List Str} {mean : ExcName → Option Value} {mg mb : Str → Option Value} {dp un : Nat} {gd : Option (List Code)} {cn : Str} {cs : Scope} {a : Addr} {ccd : Value} {outer : List Env} {A₀ : Around} {base : Heap} {L : Addr} {m : Str → Option Value}
theorem ext_loop {xa xd sa sd pb fs l : Nat} {ch : List Nat} {ex : List (Addr × Obj)} {R : Result → Shared → Prop} {res : Value} (hk : cs.kind = .function) (hdp : dp + 50 ≤ 700) (hun : un + 351 ≤ 4000)
    (hx : (mkS ch).length ≤ 100000) (hok : ∀ c ∈ ch, okc c) (hF : Far l xa xd sa sd pb fs ex) (n : Nat) :
    ∀ {h₀ : Heap} {s : Shared} {S : S4} {ts : Tok} {p : Nat} {led : List (Addr × Obj)} {acc : Array Value} {c : Nat} {toks : List (List Nat)}, splitAll n S (ch.drop p) = some toks → (S = .nn ∨ S = .sp) → p ≤ ch.length →
      IsLex w xa xd sa sd pb fs (S.val ts) (Str.ofString "") (mkS ch) p ((l, lst acc c) :: ex) led → News h₀ L s.heap led → Fr h₀ L s.heap m → Below A₀ base outer h₀ → (KY w.params).In h₀ → Top pg lz mean mg mb h₀ →
      Apart xa xd sa sd pb fs ((l, lst acc c) :: ex) → acc.size + toks.length ≤ 1000000 →
      (∀ (g' h' : Heap) (tk' : Nat) (vs : List Value) (c' : Nat), KtsTurn (outer.filterMap (·.frame)) h₀ g' → Fr g' L h' m → Below A₀ base outer g' → News g' L h' ((l, lst (acc ++ vs.toArray) c') :: ex) → StrsAre vs toks → R (.ok (.ret res)) { s with heap := h', toks := tk' }) →
      codeAny (model PySem.Challenge.rw_nq0264_01.prog w) (ktrTop dp un gd cn cs L a ccd [] outer) (.builtin "list.extend.loop" ⟨[.ref l, .ref xa, res], []⟩) R s := by
  induction n with
  | zero => intro h₀ s S ts p led acc c toks h; cases h
  | succ n ih =>
    intro h₀ s S ts p led acc c toks h hS hp I N F B X T P hz hR
    unfold splitAll at h
    cases hrd : rd S false [] (ch.drop p) with
    | none => rw [hrd] at h; cases h
    | some Rr =>
    rw [hrd] at h
    dsimp only at h
    refine codeAny_builtin PySem.F.entry_extend_loop ?_
    rw [Around.under_plainId PySem.F.plain_extend_loop _]
    show wpAny _ _ (pyNext (.ref xa) >>= _) _ _ s
    refine wpAny_bind ?_
    refine next_lex (un := un + 1) B F X T hk (by omega) (by omega) I N P hx hp hS hrd hok (fun hn g' h' tk' T' F' K' N' => ?_) (fun hn led' t p' h' tk' F' N' hd' hp' hb' I' => ?_)
    · rw [if_pos hn] at h
      cases h
      refine wpAny_pure ?_
      have := hR g' h' tk' [] c T' F' K' (by simpa using N') .nil
      simpa using this
    · rw [if_neg hn] at h
      obtain ⟨ts', I'⟩ := I'
      obtain ⟨six, rfl, hsw, hsix⟩ := I'.swap
      cases hrest : splitAll n (if Rr.eof then S4.nn else S4.sp) Rr.rest with
      | none => rw [hrest] at h; cases h
      | some toks' =>
      rw [hrest] at h
      cases h
      have hl' := N' (l, lst acc c) (by simp)
      have hsz : acc.size ≤ 1000000 := by simp only [List.length_cons] at hz; omega
      show wpAny _ _ (updateSeq l (·.push (.str (mkS Rr.tok) t)) >>= _) _ _ _
      refine wpAny_bind (wpAny_updateSeq hl'.1 rfl (wpAny_pure ⟨plainId_quiet PySem.F.plain_extend_loop _, ?_⟩) (by rw [sizeLine_eq]; omega) (by rw [Array.size_push, sizeLine_eq]; omega))
      have hs : Heap.SameBut l h' (h'.update l (Obj.mapSeq (·.push (.str (mkS Rr.tok) t)))) := Heap.SameBut.update ..
      have ge := Heap.get?_update_self (Obj.mapSeq (·.push (Value.str (mkS Rr.tok) t))) hl'.1 rfl
      have hne : ∀ q ∈ six, q.1 ≠ l := by
        intro q hq
        obtain ⟨f1, f2, f3, f4, f5, f6⟩ := hF.b1
        rcases hsix q hq with e | e | e | e | e | e <;> (rw [e]; assumption)
      have eo : Obj.mapSeq (·.push (Value.str (mkS Rr.tok) t)) (lst acc c) = lst (acc.push (.str (mkS Rr.tok) t)) (c + 1) := by
        simp [Obj.mapSeq]
      rw [eo] at ge
      have N'' := news_set N' hne hF.b2 hs ge
      have F'' := F'.change hs hl'.2.1 hl'.2.2
      refine ih (toks := toks') (by rw [hd']; exact hrest) (by cases Rr.eof <;> simp) hp' (hsw _) N'' F'' B X T ⟨P.c1, P.c2, P.c3, P.c4, P.c5, P.d1, P.d3, P.d4, P.d5, fun q hq => ?_, fun q hq => ?_⟩ ?_ (fun g' h'' tk'' vs c' T' F3 K3 N3 hv => ?_)
      · rcases List.mem_cons.mp hq with rfl | hq
        · exact P.a6 (l, lst acc c) (.head _)
        · exact P.a6 q (.tail _ hq)
      · rcases List.mem_cons.mp hq with rfl | hq
        · exact P.a7 (l, lst acc c) (.head _)
        · exact P.a7 q (.tail _ hq)
      · rw [Array.size_push]; simp only [List.length_cons] at hz; omega
      · have e3 : acc.push (Value.str (mkS Rr.tok) t) ++ vs.toArray = acc ++ (Value.str (mkS Rr.tok) t :: vs).toArray := by
          apply Array.ext'
          simp
        rw [e3] at N3
        exact hR g' h'' tk'' _ c' T' F3 K3 N3 (.cons hv)
end
end

section
section
variable {w : World} {pg : Program} {lz : List Str} {mean : ExcName → Option Value} {mg mb : Str → Option Value} {dp un : Nat} {gd : Option (List Code)} {cn : Str} {cs : Scope} {a : Addr} {ccd : Value} {cl : List (Str × Addr)} {outer : List Env} {A₀ : Around} {base h₀ : Heap} {L : Addr} {m : Str → Option Value} {s : Shared} {Q E : Value → Shared → Prop}
theorem iter_lex {xa xd sa sd pb fs : Nat} {st : Value} {tok buf : Str} {pos : Int} {ex led : List (Addr × Obj)}
   (B : Below A₀ base outer h₀) (F : Fr h₀ L s.heap m) (X : (KY w.params).In h₀) (T : Top pg lz mean mg mb h₀) (hk : cs.kind = .function)
   (hdp : dp + 50 ≤ 700) (hun : un + 350 ≤ 4000) (I : IsLex w xa xd sa sd pb fs st tok buf pos ex led) (N : News h₀ L s.heap led) 
   (ret : ∀ (h' : Heap) (tk' : Nat), Fr h₀ L h' m → News h₀ L h' led → Q (.ref xa) { s with heap := h', toks := tk' }) :
   wpAny (model PySem.Challenge.rw_nq0264_01.prog w) (ktrTop dp un gd cn cs L a ccd cl outer) (pyIter (.ref xa)) Q E s := by
  obtain ⟨kk, jj, rfl⟩ := I
  w_on
  k_dflt (refine' owit_iter ?F ?X ?I ?hs ?hf ?_; (case F => k_asm); (case X => k_asm); (case I => k_inst); (case hs => k_is); (case hf => k_is))
  refine wpAny_call ?_
  k_dflt cell_enter
  k_steps
  (rename News _ _ _ _ => nE)
  (rename Fr _ _ _ _ => fE)
  exact ret _ _ fE nE
end
end

section
section
variable {w : World} {pg : Program} {lz : List Str} {mean : ExcName → Option Value} {mg mb : Str → Option Value} {dp un : Nat} {gd : Option (List Code)} {cn : Str} {cs : Scope} {a : Addr} {ccd : Value} {outer : List Env} {A₀ : Around} {base h₀ : Heap} {L : Addr} {m : Str → Option Value} {s : Shared} {Q E : Value → Shared → Prop}
theorem list_lex {xa xd sa sd pb fs : Nat} {S : S4} {ts : Tok} {ch : List Nat} {p n : Nat} {ex led : List (Addr × Obj)} {toks : List (List Nat)}
   (B : Below A₀ base outer h₀) (F : Fr h₀ L s.heap m) (X : (KY w.params).In h₀) (T : Top pg lz mean mg mb h₀) (hk : cs.kind = .function)
   (hdp : dp + 50 ≤ 700) (hun : un + 353 ≤ 4000) (I : IsLex w xa xd sa sd pb fs (S.val ts) (Str.ofString "") (mkS ch) p ex led) (N : News h₀ L s.heap led) (P : Apart xa xd sa sd pb fs ex)
   (hx : (mkS ch).length ≤ 100000) (hpl : p ≤ ch.length) (hS : S = .nn ∨ S = .sp) (hR : splitAll n S (ch.drop p) = some toks) (hok : ∀ c ∈ ch, okc c) (hz : toks.length ≤ 1000000)
   (ret : ∀ (l : Nat) (g' h' : Heap) (tk' : Nat) (vs : List Value) (c' : Nat), (∀ q ∈ led, q.1 < l) → KtsTurn (outer.filterMap (·.frame)) h₀ g' → Fr g' L h' m → Below A₀ base outer g' → News g' L h' ((l, lst vs.toArray c') :: ex) → StrsAre vs toks → Q (.ref l) { s with heap := h', toks := tk' }) :
   wpAny (model PySem.Challenge.rw_nq0264_01.prog w) (ktrTop dp un gd cn cs L a ccd [] outer) (call (.type "list") [.ref xa]) Q E s := by
  have hlt : ∀ q ∈ led, q.1 < s.heap.objs.size := fun q hq => Heap.lt_size (N q hq).1
  have hne : ∀ q ∈ led, q.1 ≠ s.heap.objs.size := fun q hq => Nat.ne_of_lt (hlt q hq)
  refine callType_codes (Q₁ := fun obj s₁ => obj = .ref s.heap.objs.size ∧ s₁ = { s with heap := s.heap.push { cls := .type "list", data := .seq #[] } }) PySem.F.called_list (PySem.F.typeCall_list_1 _) PySem.F.entry_list_init
    (code_list_new _ ⟨rfl, rfl⟩) fun obj s₁ h₁ => ?_
  obtain ⟨rfl, rfl⟩ := h₁
  have hSl : (s.heap.push (lst #[] 0)).get? s.heap.objs.size = some (lst #[] 0) := Heap.get?_push_size _ rfl
  have F1 := F.push (lst #[] 0)
  have N1 := N.push F (lst #[] 0)
  generalize hl : s.heap.objs.size = l at *
  refine ⟨⟨_, hSl, rfl⟩, PySem.F.args_list_init_2 _ _, ?_⟩
  show wpAny _ _ (do let old ← Builtin.List.listItems (.ref l); Builtin.List.listUpdate (.ref l) (fun _ => #[]); letGo old.toList.reverse; Builtin.List.listExtendWith (.ref l) (.ref xa) .none) _ _ _
  refine wpAny_bind ?_
  unfold Builtin.List.listItems
  refine wpAny_bind (wpAny_seqItems hSl rfl (wpAny_pure ?_))
  show wpAny _ _ (updateSeq l (fun _ => #[]) >>= fun _ => letGo (#[] : Array Value).toList.reverse >>= fun _ => Builtin.List.listExtendWith (.ref l) (.ref xa) .none) _ _ _
  refine wpAny_bind (wpAny_updateSeq hSl rfl ?_)
  obtain ⟨F2, N2⟩ := upd_head (f := Obj.mapSeq (fun _ => (#[] : Array Value))) (o' := lst #[] 0) F1 N1 hne (by simp [Obj.mapSeq]) rfl
  refine wpAny_bind (wpAny_letGo ?_)
  obtain ⟨six, e6, hsw, hsix⟩ := I.swap
  have hxm : ∃ o, (xa, o) ∈ led := by
    obtain ⟨kk, jj, rfl⟩ := I
    exact ⟨_, .head _⟩
  have IA : ∀ {h : Heap} {led' : List (Addr × Obj)}, News h₀ L h led' → (∀ q ∈ led, q ∈ led') → ∃ ox od, InstAt h xa ox 811 od := by
    intro h led' N' hs
    obtain ⟨kk, jj, rfl⟩ := I
    exact ⟨_, _, InstAt.of_news N' (hs _ (.head _)) (hs _ (.tail _ (.head _)))⟩
  unfold Builtin.List.listExtendWith
  obtain ⟨ox, od, I2⟩ := IA N2 (fun q hq => .tail _ hq)
  refine wpAny_bind (I2.type.here ?_)
  have hxl : l ≠ xa := by
    obtain ⟨o, ho⟩ := hxm
    exact (hne _ ho).symm
  have h1 : Builtin.List.listSameRef (.ref l) (.ref xa) = false := by simp [Builtin.List.listSameRef, hxl]
  have h2 : (Value.ref 811 == Value.type "list") = false := rfl
  have h3 : (Value.ref 811 == Value.type "tuple") = false := rfl
  simp only [h1, h2, h3, Bool.or_false, Bool.false_eq_true, if_false]
  subst e6
  have mv : ∀ {h : Heap} {o : Obj}, News h₀ L h ((l, o) :: (six ++ ex)) → News h₀ L h (six ++ (l, o) :: ex) := fun N' q hq => N' q (by simp only [List.mem_append, List.mem_cons] at hq ⊢; rcases hq with h | h | h <;> simp [h])
  have mw : ∀ {h : Heap} {o : Obj}, News h₀ L h (six ++ (l, o) :: ex) → News h₀ L h ((l, o) :: (six ++ ex)) := fun N' q hq => N' q (by simp only [List.mem_append, List.mem_cons] at hq ⊢; rcases hq with h | h | h <;> simp [h])
  refine wpAny_bind ?_
  refine iter_lex (un := un + 2) (cl := []) B F2 X T hk (by omega) (by omega) (hsw ((l, lst #[] 0) :: ex)) (mv N2) fun h' tk' F' N' => ?_
  refine wpAny_bind (wpAny_holding ?_)
  have N'w := mw N'
  obtain ⟨ox3, od3, I3⟩ := IA N'w (fun q hq => .tail _ hq)
  have X3 := X.keeps F'.keep
  unfold Builtin.List.listLengthHint
  refine wpAny_bind (wpAny_bind (I3.type.here ((looks_findIn X3 (no_len_lex w)).here ?_)))
  show wpAny _ _ (specialOf (Value.ref xa) (Str.ofString "__length_hint__") >>= _) _ _ _
  refine wpAny_bind (wpAny_bind (I3.type.here ((looks_findIn X3 (no_hint_lex w)).here ?_)))
  refine wpAny_pure ?_
  show wpAny _ _ (rule "list.extend.makes-room" >>= fun _ => Builtin.List.listTouch (.ref l) >>= fun _ =>
    again (.builtin "list.extend.loop" ⟨[.ref l, .ref xa, .none], []⟩)) _ _ _
  refine wpAny_bind (wpAny_rule ?_)
  refine wpAny_bind ?_
  show wpAny _ _ (updateSeq l (·.push .none) >>= fun _ => updateSeq l (·.pop)) _ _ _
  have hS4 := (N'w (l, lst #[] 0) (.head _)).1
  refine wpAny_bind (wpAny_updateSeq hS4 rfl ?_)
  obtain ⟨F4, N4⟩ := upd_head (f := Obj.mapSeq (·.push Value.none)) (o' := lst #[.none] 1) F' N'w hne (by simp [Obj.mapSeq]) rfl
  have hS5 := (N4 (l, lst #[.none] 1) (.head _)).1
  refine wpAny_updateSeq (hz := by seq_fits) hS5 rfl ?_
  obtain ⟨F5, N5⟩ := upd_head (f := Obj.mapSeq (·.pop)) (o' := lst #[] 2) F4 N4 hne (by simp [Obj.mapSeq]) rfl
  refine wpAny_pure ⟨plainId_quiet PySem.F.plain_extend_loop _, ?_⟩
  have hall : ∀ y, y = xa ∨ y = xd ∨ y = sa ∨ y = sd ∨ y = pb ∨ y = fs → y ≠ l := by
    obtain ⟨kk, jj, e9⟩ := I
    rw [e9] at hne
    intro y hy
    rcases hy with rfl | rfl | rfl | rfl | rfl | rfl
    · exact hne _ (.head _)
    · exact hne _ (.tail _ (.head _))
    · exact hne _ (.tail _ (.tail _ (.head _)))
    · exact hne _ (.tail _ (.tail _ (.tail _ (.head _))))
    · exact hne _ (.tail _ (.tail _ (.tail _ (.tail _ (.head _)))))
    · exact hne _ (.tail _ (.tail _ (.tail _ (.tail _ (.tail _ (.head _))))))
  refine ext_loop (un := un + 1) hk hdp (by omega) hx hok ⟨⟨hall _ (by simp), hall _ (by simp), hall _ (by simp), hall _ (by simp), hall _ (by simp), hall _ (by simp)⟩, fun q hq => hne q (List.mem_append_right _ hq)⟩ n hR hS hpl (hsw _) (mv N5) F5 B X T
    ⟨P.c1, P.c2, P.c3, P.c4, P.c5, P.d1, P.d3, P.d4, P.d5, fun q hq => ?_, fun q hq => ?_⟩ (by simpa using hz) (fun g' h'' tk'' vs c' T' F6 K6 N6 hv => ?_)
  · rcases List.mem_cons.mp hq with rfl | hq
    · exact (hall xd (by simp)).symm
    · exact P.a6 q hq
  · rcases List.mem_cons.mp hq with rfl | hq
    · exact (hall sd (by simp)).symm
    · exact P.a7 q hq
  · exact ⟨rfl, ret l g' h'' tk'' vs c' hlt T' F6 K6 (by simpa using N6) hv⟩
end
end

section
section
variable {prog : Program} {w : World} {A : Around} {K : Frag} {C : Addr} {R : Result → Shared → Prop} {s : Shared}
end
section
variable {w : World} {pg : Program} {lz : List Str} {mean : ExcName → Option Value} {mg mb : Str → Option Value} {dp un : Nat} {gd : Option (List Code)} {cn : Str} {cs : Scope} {a : Addr} {ccd : Value} {cl : List (Str × Addr)} {outer : List Env} {A₀ : Around} {base h₀ : Heap} {L : Addr} {m : Str → Option Value} {s : Shared} {Q E : Value → Shared → Prop}
theorem sio_new {news : List (Addr × Obj)} {x : Str} {tk : Tok}
   (B : Below A₀ base outer h₀) (F : Fr h₀ L s.heap m) (X : (KY w.params).In h₀) (T : Top pg lz mean mg mb h₀) (hk : cs.kind = .function)
   (hdp : dp + 50 ≤ 700) (hun : un + 350 ≤ 4000) (N : News h₀ L s.heap news) (hx : x.length ≤ 100000)
   (ret : ∀ (sa sd : Nat) (j : SK) (h' : Heap) (tk' : Nat), Fr h₀ L h' m → News h₀ L h' ((sa, instObj 676 sd) :: (sd, dictOf (siEs w j x 0) 3) :: news) → (∀ p ∈ news, p.1 ≠ sd) → (∀ p ∈ news, p.1 ≠ sa) → sd ≠ sa → Q (.ref sa) { s with heap := h', toks := tk' }) :
   wpAny (model PySem.Challenge.rw_nq0264_01.prog w) (ktrTop dp un gd cn cs L a ccd cl outer) (call (.ref 676) [.str x tk]) Q E s := by
  have st0 : ∀ M A as ks Q E s, Nonempty (StopP (wpAny M A (call (Value.builtin "object.__new__") as ks) Q E s)) := by intros; exact StopP.mk
  have st1 : ∀ M A as ks Q E s, Nonempty (StopP (wpAny M A (call (Value.ref 169) as ks) Q E s)) := by intros; exact StopP.mk
  have st2 : ∀ M A a b Q E s, Nonempty (StopP (wpAny M A (isInstance (Value.ref a) (Value.ref b)) Q E s)) := by intros; exact StopP.mk
  have st3 : ∀ M A a n as ks Q E s, Nonempty (StopP (wpAny M A (callSpecial? (Value.ref a) n as ks) Q E s)) := by intros; exact StopP.mk
  have st4 : ∀ M A as ks Q E s, Nonempty (StopP (wpAny M A (call (Value.ref 446) as ks) Q E s)) := by intros; exact StopP.mk
  w_on
  refine wpAny_call (type_call_new (X.keeps F.keep) (slot4_sio w) ?_)
  (k_steps; repeat' (refine Stop9.inn ?_; (first | ((with_reducible show wpAny _ _ (call (Value.builtin "object.__new__") _ _) _ _ _); k_here; k_dflt (refine' obj_new ?F ?N ?X ?h1 ?h2 ?h3 ?_; (case F => k_asm); (case N => k_asm); (case X => k_asm); (case h1 => exact rfl); (case h2 => ((try simp only [du_make, uu_make, depth_in1, depth_deeper, depth_caller, units_in1, units_deeper, Around.mark_units, units_caller]); (try dsimp only [ktrTop]); omega)); (case h3 => ((try simp only [du_make, uu_make, depth_in1, depth_deeper, depth_caller, units_in1, units_deeper, Around.mark_units, units_caller]); (try dsimp only [ktrTop]); omega)); k_whole); intro _ _ _ _ _ _ l9 _; (simp only [List.forall_mem_cons] at l9); obtain ⟨⟨n1, n2⟩, ⟨n3, n4⟩, n5⟩ := l9; (have n6 := fun p hp => (n5 p hp).1); (have n7 := fun p hp => (n5 p hp).2); (try dsimp only)) | (k_here; (with_reducible show wpAny _ _ (call (Value.ref 169) _ _) _ _ _); k_dflt (refine wpAny_call ?_; refine' kpc_both ?k1 ?k2 ?k3 ?k4 ?k5 ?kA ?kF ?kK ?k6 ?k7 ?k8 ?kV ?kX ?kQ ?kM ?kN ?kD ?kR ?kP ?kS ?kT ?kB ?_ ?c2 ?c3 ?c4 ?c5; (case kA => exact rfl); (case kF => exact rfl); (case kK => assumption); (case k1 => k_asm); (case k2 => k_asm); (case k3 => k_asm); (case k4 => k_asm); (case k5 => k_asm); (case k6 => k_is); (case k7 => k_is); (case k8 => ktr_room); (case kV => kp_lit); (case kX => kp_lit); (case kQ => exact rfl); (case kM => exact rfl); (case kN => exact rfl); (case kD => kp_flats); (case kR => exact rfl); (case kP => exact rfl); (case kS => exact fun _ => rfl); (case kT => exact fun _ _ => rfl); (case kB => exact fun _ _ => locs rfl); (case c5 => decide); (case c2 => exact rfl); (case c3 => exact rfl); (case c4 => exact rfl); k_whole; intro _ _ _ _ _ _ _ l1 l2 _ _ _ _ _ _ B' _ _; (try k_lt l1); (try k_lt2 l2); (try dsimp only); (try k_lift B'); (try k_fold))) | ((with_reducible show wpAny _ _ (isInstance _ _) _ _ _); k_here; k_dflt (refine' isInst_here ?F ?X ?I ?hs ?_; (case F => k_asm); (case X => k_asm); (case I => k_inst); (case hs => k_is); k_whole); refine ⟨rfl, ?_⟩) | ((with_reducible show wpAny _ _ (callSpecial? _ _ _ _) _ _ _); k_here; k_dflt (refine' special_here ?F ?X ?I ?hs ?hf ?_; (case F => k_asm); (case X => k_asm); (case I => k_inst); (case hs => k_is); (case hf => k_is); k_whole)) | (k_here; (with_reducible show wpAny _ _ (call (Value.ref 446) _ _) _ _ _); k_dflt (refine wpAny_call ?_; cell_enter))); all_goals k_steps))
  (rename News _ _ _ _ => nE)
  (rename Fr _ _ _ _ => fE)
  exact ret _ _ ⟨_, _, _, _, _, _⟩ _ _ fE (news_drop2 nE) (by assumption) (by assumption) (by assumption)
end
end

section
section
variable {w : World} {pg : Program} {lz : List Str} {mean : ExcName → Option Value} {mg mb : Str → Option Value} {dp un : Nat} {gd : Option (List Code)} {cn : Str} {cs : Scope} {a : Addr} {ccd : Value} {cl : List (Str × Addr)} {outer : List Env} {A₀ : Around} {base h₀ : Heap} {L : Addr} {m : Str → Option Value} {s : Shared} {Q E : Value → Shared → Prop}
theorem split_ {news : List (Addr × Obj)} {ch : List Nat} {tk : Tok} {n : Nat} {toks : List (List Nat)}
   (B : Below A₀ base [] h₀) (F : Fr h₀ L s.heap m) (X : (KY w.params).In h₀) (T : Top pg lz mean mg mb h₀) (hk : cs.kind = .function)
   (hdp : dp + 100 ≤ 700) (hun : un + 800 ≤ 4000) (N : News h₀ L s.heap news) (hx : (mkS ch).length ≤ 100000) (hR : splitAll n .sp ch = some toks) (hok : ∀ c ∈ ch, okc c) (hz : toks.length ≤ 1000000)
   (ret : ∀ (l : Nat) (h' : Heap) (tk' : Nat) (vs : List Value) (c' : Nat), Fr h₀ L h' m → News h₀ L h' ((l, lst vs.toArray c') :: news) → (∀ q ∈ news, q.1 < l) → StrsAre vs toks → Q (.ref l) { s with heap := h', toks := tk' }) :
   wpAny (model PySem.Challenge.rw_nq0264_01.prog w) (ktrTop dp un gd cn cs L a ccd [] []) (call (.ref 823) [.str (mkS ch) tk]) Q E s := by
  have st0 : ∀ M A as ks Q E s, Nonempty (StopP (wpAny M A (call (Value.type "collections.deque") as ks) Q E s)) := by intros; exact StopP.mk
  have st1 : ∀ M A as ks Q E s, Nonempty (StopP (wpAny M A (call (Value.ref 676) as ks) Q E s)) := by intros; exact StopP.mk
  have st2 : ∀ M A a ks Q E s, Nonempty (StopP (wpAny M A (call (Value.type "list") [Value.ref a] ks) Q E s)) := by intros; exact StopP.mk
  have st3 : ∀ a b c d e f g h, Nonempty (StopP (LeaveS0 a b c d e f g h)) := by intros; exact StopP.mk
  w_on
  refine wpAny_call ?_
  refine' code_defS0 ?k1 ?k2 ?k3 ?k4 ?k5 ?kA ?k6 ?k7 ?k8 ?k9 ?kB ?_ ?cK ?c2 ?c3 ?c4 ?c5
  case kA => exact rfl
  case k2 => k_asm
  case k1 => k_asm
  case k3 => k_asm
  case k4 => k_asm
  case k5 => k_asm
  case k6 => k_is
  case k7 => k_is
  case k8 => ktr_room
  case k9 => exact binds_K (by k_in) rfl (by k_is) rfl rfl rfl
  case kB => exact locs rfl
  case cK => assumption
  case c2 => exact rfl
  case c3 => exact rfl
  case c4 => exact rfl
  case c5 => decide
  k_whole
  intro g' L' h' FG' F' N' B' X' T' D'
  dsimp only
  k_lift B'
  (try k_fold)
  (k_steps; repeat' (refine Stop9.inn ?_; (first | ((with_reducible show wpAny _ _ (call (Value.type "collections.deque") _ _) _ _ _); k_here; k_dflt (refine' deque_new ?F ?N ?h1 ?h2 ?h3 ?_; (case F => k_asm); (case N => k_asm); (case h1 => exact rfl); (case h2 => ((try simp only [du_make, uu_make, depth_in1, depth_deeper, depth_caller, units_in1, units_deeper, Around.mark_units, units_caller]); (try dsimp only [ktrTop]); omega)); (case h3 => ((try simp only [du_make, uu_make, depth_in1, depth_deeper, depth_caller, units_in1, units_deeper, Around.mark_units, units_caller]); (try dsimp only [ktrTop]); omega)); k_whole); intro _ _ _ _ _ l9; (simp only [List.forall_mem_cons] at l9); (first | obtain ⟨n1, n2, n3, n4, n5, n6⟩ := l9 | obtain ⟨n1, n2, n3, n4, n5⟩ := l9); (try dsimp only)) | (k_here; (with_reducible show wpAny _ _ (call (Value.ref 676) _) _ _ _); k_dflt (refine' sio_new ?B ?F ?X ?T ?hk ?h1 ?h2 ?N ?hx ?_; (case B => k_asm); (case F => k_asm); (case X => k_asm); (case T => k_asm); (case hk => exact rfl); (case N => k_asm); (case h1 => ((try simp only [du_make, uu_make, depth_in1, depth_deeper, depth_caller, units_in1, units_deeper, Around.mark_units, units_caller]); (try dsimp only [ktrTop]); omega)); (case h2 => ((try simp only [du_make, uu_make, depth_in1, depth_deeper, depth_caller, units_in1, units_deeper, Around.mark_units, units_caller]); (try dsimp only [ktrTop]); omega)); (case hx => assumption); k_whole); intro _ _ _ _ _ _ _ l9 l8 _; (simp only [List.forall_mem_cons] at l9 l8); obtain ⟨n1, n2, n3⟩ := l9; obtain ⟨n4, n5, n6⟩ := l8; (try dsimp only))); all_goals k_steps))
  unfold Stop9
  (rename News _ _ _ _ => nE)
  (rename Fr _ _ _ _ => fE)
  k_dflt (refine' list_lex (S := .sp) (p := 0) (ex := news) ?B ?F ?X ?T ?hk ?hdp ?hun ?I (news_five nE) ?P ?hx ?hpl ?hS ?hR ?hok ?hz ?_; (case B => k_asm); (case F => k_asm); (case X => k_asm); (case T => k_asm); (case hk => exact rfl); (case I => exact isLex_mk))
  case hdp => ktr_room
  case hun => ktr_units
  case P => constructor <;> first | assumption | (refine Ne.symm ?_; assumption) | omega | (intro p hp; rename ∀ (p : Addr × Obj), p ∈ news → _ < _ => z; exact Nat.ne_of_lt (z p hp))
  case hx => assumption
  case hpl => exact Nat.zero_le _
  case hS => exact .inr rfl
  case hR => assumption
  case hok => assumption
  case hz => assumption
  intro l9 g9 h9 tk9 vs9 c9 hl9 KT9 F9 B9 N9 S9
  (k_steps; repeat' (refine Stop9.inn ?_; (first | ((with_reducible show wpAny _ _ (call (Value.type "collections.deque") _ _) _ _ _); k_here; k_dflt (refine' deque_new ?F ?N ?h1 ?h2 ?h3 ?_; (case F => k_asm); (case N => k_asm); (case h1 => exact rfl); (case h2 => ((try simp only [du_make, uu_make, depth_in1, depth_deeper, depth_caller, units_in1, units_deeper, Around.mark_units, units_caller]); (try dsimp only [ktrTop]); omega)); (case h3 => ((try simp only [du_make, uu_make, depth_in1, depth_deeper, depth_caller, units_in1, units_deeper, Around.mark_units, units_caller]); (try dsimp only [ktrTop]); omega)); k_whole); intro _ _ _ _ _ l9; (simp only [List.forall_mem_cons] at l9); (first | obtain ⟨n1, n2, n3, n4, n5, n6⟩ := l9 | obtain ⟨n1, n2, n3, n4, n5⟩ := l9); (try dsimp only)) | (k_here; (with_reducible show wpAny _ _ (call (Value.ref 676) _) _ _ _); k_dflt (refine' sio_new ?B ?F ?X ?T ?hk ?h1 ?h2 ?N ?hx ?_; (case B => k_asm); (case F => k_asm); (case X => k_asm); (case T => k_asm); (case hk => exact rfl); (case N => k_asm); (case h1 => ((try simp only [du_make, uu_make, depth_in1, depth_deeper, depth_caller, units_in1, units_deeper, Around.mark_units, units_caller]); (try dsimp only [ktrTop]); omega)); (case h2 => ((try simp only [du_make, uu_make, depth_in1, depth_deeper, depth_caller, units_in1, units_deeper, Around.mark_units, units_caller]); (try dsimp only [ktrTop]); omega)); (case hx => assumption); k_whole); intro _ _ _ _ _ _ _ l9 l8 _; (simp only [List.forall_mem_cons] at l9 l8); obtain ⟨n1, n2, n3⟩ := l9; obtain ⟨n4, n5, n6⟩ := l8; (try dsimp only))); all_goals k_steps))
  unfold Stop9
  refine leaveS0_ (by assumption) (by assumption) KT9 ?_
  intro kF kN
  refine ret _ _ _ _ _ kF kN (fun q hq => hl9 q ?_) S9
  exact .tail _ (.tail _ (.tail _ (.tail _ (.tail _ (.tail _ hq)))))
end
end

section
section
variable {w : World} {pg : Program} {lz : List Str} {mean : ExcName → Option Value} {mg mb : Str → Option Value} {dp un : Nat} {gd : Option (List Code)} {cn : Str} {cs : Scope} {a : Addr} {ccd : Value} {cl : List (Str × Addr)} {outer : List Env} {A₀ : Around} {base h₀ : Heap} {L : Addr} {m : Str → Option Value} {s : Shared} {Q E : Value → Shared → Prop}

local macro_rules | `(tactic| walk_at "eval ListComp") => `(tactic| (refine Stop9C (by intro h9; rfl) ?_))
theorem folders_ {news : List (Addr × Obj)} {na : Nat} {nv : List Value} {xs : List Int} {c : Nat}
   (B : Below A₀ base outer h₀) (F : Fr h₀ L s.heap m) (X : (KY w.params).In h₀) (T : Top pg lz mean mg mb h₀) (hk : cs.kind = .function)
   (hdp : dp + 100 ≤ 700) (hun : un + 800 ≤ 4000) (N : News h₀ L s.heap news) (hn : (na, listOf nv.toArray c) ∈ news) (hI : IntsAre nv xs) (hl : xs.length ≤ 1000)
   (ret : ∀ (l : Nat) (h' : Heap) (tk' : Nat) (vs : List Value) (add : List (Addr × Obj)) (c' : Nat), Fr h₀ L h' m → News h₀ L h' ((l, listOf vs.toArray c') :: (add ++ news)) → (∀ q ∈ news, q.1 < l) → (∀ q ∈ add, q.1 ≠ l) → (∀ q ∈ news, ∀ p ∈ add, q.1 < p.1) → DatAll add vs (xs.map fldD) → Q (.ref l) { s with heap := h', toks := tk' }) :
   wpAny (model PySem.Challenge.rw_nq0264_01.prog w) (ktrTop dp un gd cn cs L a ccd cl outer) (call (.ref 843) [.ref na]) Q E s := by
  have sr0 : ∀ a b c d e f g h i j k l m n, Nonempty (StopP (LCg.CompSrc a b c d e f g h i j k l m n)) := by intros; exact StopP.mk
  have sr1 : ∀ a b c d e f g h i j k l m n o p q r s, Nonempty (StopP (LCg.CompRest a b c d e f g h i j k l m n o p q r s)) := by intros; exact StopP.mk
  have sr2 : ∀ a b c d e f g h i j k l m n, Nonempty (StopP (LCg.CompEnd a b c d e f g h i j k l m n)) := by intros; exact StopP.mk
  have sr3 : ∀ M A x y a i u Q E s, Nonempty (StopP (wpAny M A (subscriptTail x y (Value.ref a) (Value.int i u)) Q E s)) := by intros; exact StopP.mk
  have st0 : ∀ M A as ks Q E s, Nonempty (StopP (wpAny M A (call (Value.builtin "str.join") as ks) Q E s)) := by intros; exact StopP.mk
  w_on
  refine wpAny_call ?_
  (refine' code_defC ?k1 ?k2 ?k3 ?k4 ?k5 ?kA ?kF ?kK ?k6 ?k7 ?k8 ?k9 ?kB ?kD ?_ ?c2 ?c3 ?c4; (case kA => exact rfl); (case kF => exact rfl); (case kK => assumption); (case k1 => k_asm); (case k2 => k_asm); (case k3 => k_asm); (case k4 => k_asm); (case k5 => k_asm); (case k6 => k_is); (case k7 => k_is); (case k8 => ktr_room); (case k9 => first | exact BindsTo.of_eq rfl | exact binds_K (by k_in) rfl (by k_is) rfl rfl rfl | fail "k_enter: no rule for these arguments"); (case kB => exact rfl); (case kD => decide +kernel); (case c2 => exact rfl); (case c3 => exact rfl); (case c4 => exact rfl); k_whole; intro g' L' h' tk' cells' FG' F' N' Y' B' X' T' l1; k_cells Y'; (try simp only [List.cons_append, List.nil_append] at N'); (try dsimp only); (try k_lift B'); (try k_fold))
  have hne1 : ∀ p ∈ news, p.1 ≠ L' + 1 := fun p hp => Nat.ne_of_lt (Nat.lt_succ_of_lt (l1 p hp))
  have F2 : Fr g' L' h' (fun y => if y = Str.ofString "numbers" then some (Value.ref na) else none) := F'
  clear F'
  (k_steps; repeat' (refine Stop9.inn ?_; (first | ((with_reducible show wpAny _ _ (call (Value.builtin "str.join") _ _) _ _ _); k_here; (try dsimp only [List.cons_append, List.nil_append]); k_dflt (refine' join3_ ?qN ?qm ?ql ?_; (case qN => k_asm); (case qm => k_mem); (case ql => exact sgn_len3 _ _ _); k_whole; intro _ _)) | ((with_reducible show wpAny _ _ (subscriptTail _ _ (Value.ref _) (Value.int _ _)) _ _ _); k_here; k_dflt (refine' signs_item ?qN ?qm ?qS ?qa ?qb ?_ ?qhs; (case qN => k_asm); (case qm => k_mem); (case qS => assumption); (case qa => l_fact); (case qb => l_fact); (case qhs => with_unfolding_all rfl); k_whole; intro t9)) | ((with_reducible show LCg.CompSrc _ _ _ _ _ _ _ _ _ _ _ _ _ _); k_here; k_dflt (refine LCg.CompSrc.range (by rfl) (by k_asm) (by k_asm) (by assumption) (by first | decide | rfl) (by first | rfl | decide) (by first | size_fits | exact Nat.le_of_ble_eq_true rfl) ?_; intro g'; lcg_lit)) | ((with_reducible show LCg.CompRest _ _ _ _ _ _ _ _ _ _ _ _ _ _ _ _ _ _ _); with_unfolding_all first  | (refine LCg.CompRest.succ ?_; intro v' I' oI' C' oC' D' m' h' tk' E' hv' hC' hx' F' N' off' ne'; (obtain ⟨t9', hv9'⟩ := hv'; subst hv9'))  | refine LCg.CompRest.zero ?_) | ((with_reducible show LCg.CompEnd _ _ _ _ _ _ _ _ _ _ _ _ _ _); refine LCg.CompEnd.intro (by assumption) (by assumption) _ (fun _ h => h) (by assumption) True.intro ?_)); all_goals k_steps))
  unfold Stop9
  (rename News _ _ _ _ => nE)
  (rename Fr _ _ _ _ => fE)
  rename_i l' h2 lt2 h3 oc hoc
  obtain ⟨lt2, lt3⟩ := lt2
  obtain ⟨osg, hS, nE⟩ := signs_pack nE
  refine ListComp_C (J := FldJ xs ((l', osg) :: (L' + 1, oc) :: news)) (by with_unfolding_all rfl) (by intro n; rfl) (by intro n; rfl) (by rfl) (by decide) (by intro C cl'; rfl) (by rfl) (.tail _ (.tail _ hn)) ?sz fE nE ?J0 ?it ?step ?fin
  case sz => rw [sizeLine_eq]; have := hI.length; simp; omega
  case J0 => exact ⟨.nil, fun p hp => nomatch hp⟩
  case it => (k_steps; repeat' (refine Stop9.inn ?_; (first | ((with_reducible show wpAny _ _ (call (Value.builtin "str.join") _ _) _ _ _); k_here; (try dsimp only [List.cons_append, List.nil_append]); k_dflt (refine' join3_ ?qN ?qm ?ql ?_; (case qN => k_asm); (case qm => k_mem); (case ql => exact sgn_len3 _ _ _); k_whole; intro _ _)) | ((with_reducible show wpAny _ _ (subscriptTail _ _ (Value.ref _) (Value.int _ _)) _ _ _); k_here; k_dflt (refine' signs_item ?qN ?qm ?qS ?qa ?qb ?_ ?qhs; (case qN => k_asm); (case qm => k_mem); (case qS => assumption); (case qa => l_fact); (case qb => l_fact); (case qhs => with_unfolding_all rfl); k_whole; intro t9)) | ((with_reducible show LCg.CompSrc _ _ _ _ _ _ _ _ _ _ _ _ _ _); k_here; k_dflt (refine LCg.CompSrc.range (by rfl) (by k_asm) (by k_asm) (by assumption) (by first | decide | rfl) (by first | rfl | decide) (by first | size_fits | exact Nat.le_of_ble_eq_true rfl) ?_; intro g'; lcg_lit)) | ((with_reducible show LCg.CompRest _ _ _ _ _ _ _ _ _ _ _ _ _ _ _ _ _ _ _); with_unfolding_all first  | (refine LCg.CompRest.succ ?_; intro v' I' oI' C' oC' D' m' h' tk' E' hv' hC' hx' F' N' off' ne'; (obtain ⟨t9', hv9'⟩ := hv'; subst hv9'))  | refine LCg.CompRest.zero ?_) | ((with_reducible show LCg.CompEnd _ _ _ _ _ _ _ _ _ _ _ _ _ _); refine LCg.CompEnd.intro (by assumption) (by assumption) _ (fun _ h => h) (by assumption) True.intro ?_)); all_goals k_steps))
  case fin =>
    intro ys add D h tk hyl hJ F5 N5 lt5 ne5
    clear nE fE
    rw [List.size_toArray] at hJ
    have hJ1 := hJ.1
    rw [hI.length, List.take_length] at hJ1
    (k_steps; repeat' (refine Stop9.inn ?_; (first | ((with_reducible show wpAny _ _ (call (Value.builtin "str.join") _ _) _ _ _); k_here; (try dsimp only [List.cons_append, List.nil_append]); k_dflt (refine' join3_ ?qN ?qm ?ql ?_; (case qN => k_asm); (case qm => k_mem); (case ql => exact sgn_len3 _ _ _); k_whole; intro _ _)) | ((with_reducible show wpAny _ _ (subscriptTail _ _ (Value.ref _) (Value.int _ _)) _ _ _); k_here; k_dflt (refine' signs_item ?qN ?qm ?qS ?qa ?qb ?_ ?qhs; (case qN => k_asm); (case qm => k_mem); (case qS => assumption); (case qa => l_fact); (case qb => l_fact); (case qhs => with_unfolding_all rfl); k_whole; intro t9)) | ((with_reducible show LCg.CompSrc _ _ _ _ _ _ _ _ _ _ _ _ _ _); k_here; k_dflt (refine LCg.CompSrc.range (by rfl) (by k_asm) (by k_asm) (by assumption) (by first | decide | rfl) (by first | rfl | decide) (by first | size_fits | exact Nat.le_of_ble_eq_true rfl) ?_; intro g'; lcg_lit)) | ((with_reducible show LCg.CompRest _ _ _ _ _ _ _ _ _ _ _ _ _ _ _ _ _ _ _); with_unfolding_all first  | (refine LCg.CompRest.succ ?_; intro v' I' oI' C' oC' D' m' h' tk' E' hv' hC' hx' F' N' off' ne'; (obtain ⟨t9', hv9'⟩ := hv'; subst hv9'))  | refine LCg.CompRest.zero ?_) | ((with_reducible show LCg.CompEnd _ _ _ _ _ _ _ _ _ _ _ _ _ _); refine LCg.CompEnd.intro (by assumption) (by assumption) _ (fun _ h => h) (by assumption) True.intro ?_)); all_goals k_steps))
    (rename News _ _ _ _ => nE)
    (rename Fr _ _ _ _ => fE)
    refine ret D h tk ys (add ++ [(l', osg), (L' + 1, oc)]) ys.length fE ?_ (fun q hq => lt5 q (.tail _ (.tail _ hq))) ?_ ?_ (hJ1.mono fun p hp => List.mem_append.mpr (.inl hp))
    · rw [List.append_assoc]; exact nE
    · intro q hq
      rcases List.mem_append.mp hq with hq | hq
      · exact ne5 q hq
      · exact Nat.ne_of_lt (lt5 q (by simp only [List.mem_cons, List.not_mem_nil, or_false] at hq; rcases hq with rfl | rfl <;> simp))
    · intro q hq p hp
      rcases List.mem_append.mp hp with hp | hp
      · exact hJ.2 p hp q (.tail _ (.tail _ hq))
      · simp only [List.mem_cons, List.not_mem_nil, or_false] at hp
        rcases hp with rfl | rfl
        · exact kst_ltOf lt3 q hq
        · exact Nat.lt_succ_of_lt (l1 q hq)
  case step =>
    intro i ys add v I oI cx ocx C oC D h tk E' hv hJ hcx F5 N5 off5
    obtain ⟨x, tx, rfl, hx⟩ := intsAt hI hv
    generalize hled : [(I, oI), (cx, ocx), (C, oC), (D, LCg.lst ys)] ++ (add ++ _) = led at N5
    have N6 := news_sub (l' := (l', osg) :: (L' + 1, oc) :: (cx, ocx) :: led) N5 (by
      intro p hp
      rw [← hled] at *
      rcases List.mem_cons.mp hp with rfl | hp
      · exact List.mem_append.mpr (.inr (List.mem_append.mpr (.inr (.head _))))
      · rcases List.mem_cons.mp hp with rfl | hp
        · exact List.mem_append.mpr (.inr (List.mem_append.mpr (.inr (.tail _ (.head _)))))
        · rcases List.mem_cons.mp hp with rfl | hp
          · exact List.mem_append.mpr (.inl (.tail _ (.head _)))
          · exact hp)
    clear nE N5 fE
    (k_steps; repeat' (refine Stop9.inn ?_; (first | ((with_reducible show wpAny _ _ (call (Value.builtin "str.join") _ _) _ _ _); k_here; (try dsimp only [List.cons_append, List.nil_append]); k_dflt (refine' join3_ ?qN ?qm ?ql ?_; (case qN => k_asm); (case qm => k_mem); (case ql => exact sgn_len3 _ _ _); k_whole; intro _ _)) | ((with_reducible show wpAny _ _ (subscriptTail _ _ (Value.ref _) (Value.int _ _)) _ _ _); k_here; k_dflt (refine' signs_item ?qN ?qm ?qS ?qa ?qb ?_ ?qhs; (case qN => k_asm); (case qm => k_mem); (case qS => assumption); (case qa => l_fact); (case qb => l_fact); (case qhs => with_unfolding_all rfl); k_whole; intro t9)) | ((with_reducible show LCg.CompSrc _ _ _ _ _ _ _ _ _ _ _ _ _ _); k_here; k_dflt (refine LCg.CompSrc.range (by rfl) (by k_asm) (by k_asm) (by assumption) (by first | decide | rfl) (by first | rfl | decide) (by first | size_fits | exact Nat.le_of_ble_eq_true rfl) ?_; intro g'; lcg_lit)) | ((with_reducible show LCg.CompRest _ _ _ _ _ _ _ _ _ _ _ _ _ _ _ _ _ _ _); with_unfolding_all first  | (refine LCg.CompRest.succ ?_; intro v' I' oI' C' oC' D' m' h' tk' E' hv' hC' hx' F' N' off' ne'; (obtain ⟨t9', hv9'⟩ := hv'; subst hv9'))  | refine LCg.CompRest.zero ?_) | ((with_reducible show LCg.CompEnd _ _ _ _ _ _ _ _ _ _ _ _ _ _); refine LCg.CompEnd.intro (by assumption) (by assumption) _ (fun _ h => h) (by assumption) True.intro ?_)); all_goals k_steps))
    (rename News _ _ _ _ => nE)
    (rename Fr _ _ _ _ => fE)
    rename_i l1
    obtain ⟨_, _, _, _, l1⟩ := l1
    rw [fld_eq] at nE
    refine EltEnd.one fE nE (fun p hp => .tail _ (.tail _ (.tail _ (.tail _ (hled ▸ hp))))) (fun q hq => kst_ltOf l1 _ (hled ▸ List.mem_append.mpr (.inl hq))) (FldJ.step (n := 0) hJ hx rfl fun q hq => kst_ltOf l1 _ (hled ▸ List.mem_append.mpr (.inr (List.mem_append.mpr (.inr hq)))))
end
end

section
section
variable {w : World} {pg : Program} {lz : List Str} {mean : ExcName → Option Value} {mg mb : Str → Option Value} {dp un : Nat} {gd : Option (List Code)} {cn : Str} {cs : Scope} {a : Addr} {ccd : Value} {cl : List (Str × Addr)} {outer : List Env} {A₀ : Around} {base h₀ : Heap} {L : Addr} {m : Str → Option Value} {s : Shared} {Q E : Value → Shared → Prop}

local macro_rules | `(tactic| walk_at "exec For Tuple Call cons nil") => `(tactic| (k_here; k_dflt (refine For_turns (by k_asm) ?_)))
local macro_rules | `(tactic| size_fits) => `(tactic| ((simp only [List.size_toArray, Array.size_push, List.length_append, List.length_cons, List.length_nil, sizeLine_eq]); omega))
local macro_rules | `(tactic| walk_at "zq") => `(tactic| skip)
theorem replies_ {news : List (Addr × Obj)} {na : Nat} {nv : List Value} {xs : List Int} {c : Nat}
   (B : Below A₀ base outer h₀) (F : Fr h₀ L s.heap m) (X : (KY w.params).In h₀) (T : Top pg lz mean mg mb h₀) (hk : cs.kind = .function)
   (hdp : dp + 200 ≤ 700) (hun : un + 1800 ≤ 4000) (N : News h₀ L s.heap news) (hn : (na, listOf nv.toArray c) ∈ news) (hI : IntsAre nv xs) (hl : xs.length ≤ 1000)
   (ret : ∀ (l : Nat) (h' : Heap) (tk' : Nat) (vs : List Value) (add : List (Addr × Obj)) (c' : Nat), Fr h₀ L h' m → News h₀ L h' ((l, listOf vs.toArray c') :: (add ++ news)) → DatAll [] vs ((repsT xs).map strD) → Q (.ref l) { s with heap := h', toks := tk' }) :
   wpAny (model PySem.Challenge.rw_nq0264_01.prog w) (ktrTop dp un gd cn cs L a ccd cl outer) (call (.ref 850) [.ref na]) Q E s := by
  have sr0 : ∀ M A as ks Q E s, Nonempty (StopP (wpAny M A (call (Value.builtin "str.replace") as ks) Q E s)) := by intros; exact StopP.mk
  have sr1 : ∀ M A a t b u Q E s, Nonempty (StopP (wpAny M A (binaryOp Operator.Add (Value.str a t) (Value.str b u)) Q E s)) := by intros; exact StopP.mk
  have sr2 : ∀ M A a t b u Q E s, Nonempty (StopP (wpAny M A (binaryOp Operator.Mult (Value.str a t) (Value.int b u)) Q E s)) := by intros; exact StopP.mk
  have sr3 : ∀ M A as ks Q E s, Nonempty (StopP (wpAny M A (call (Value.type "str") as ks) Q E s)) := by intros; exact StopP.mk
  have sr4 : ∀ M A x y a t i u Q E s, Nonempty (StopP (wpAny M A (subscriptTail x y (Value.str a t) (Value.int i u)) Q E s)) := by intros; exact StopP.mk
  have st0 : ∀ M A as ks Q E s, Nonempty (StopP (wpAny M A (call (Value.ref 843) as ks) Q E s)) := by intros; exact StopP.mk
  have st1 : ∀ M A as ks Q E s, Nonempty (StopP (wpAny M A (call (Value.type "zip") as ks) Q E s)) := by intros; exact StopP.mk
  have st2 : ∀ M A as ks Q E s, Nonempty (StopP (wpAny M A (call (Value.builtin "list.append") as ks) Q E s)) := by intros; exact StopP.mk
  have st3 : ∀ M A a z Q E s, Nonempty (StopP (wpAny M A (getMethod (Value.ref a) (PySem.Str.ofString "append") z) Q E s)) := by intros; exact StopP.mk
  w_on
  have N := news_sub (l' := (na, listOf nv.toArray c) :: news) N (fun p hp => by rcases List.mem_cons.mp hp with rfl | hp <;> assumption)
  refine wpAny_call ?_
  k_dflt cell_enter
  (k_steps; repeat' (refine Stop9.inn ?_; (first | ((with_reducible show wpAny _ _ (call (Value.builtin "str.replace") _ _) _ _ _); k_here; (try dsimp only [List.cons_append, List.nil_append]); k_dflt (refine' replace34 e6 lH ?qa1 ?qa2 ?qa3 (by decide +kernel) ?qa4 (by decide) ?_; (case qa1 => exact tokN (by (try dsimp only); omega)); (case qa2 => exact tokN (by (try dsimp only); omega)); (case qa3 => exact tokN (by (try dsimp only); omega)); (case qa4 => exact Nat.le_trans (fld_len _) (by decide))); intro t9 k9; (try dsimp only)) | ((with_reducible show wpAny _ _ (binaryOp Operator.Add _ _) _ _ _); k_here; (with_reducible refine Bx.out ?_); k_dflt (refine' addS ?qa1 ?qa2 ?qa3 ?_; (case qa1 => first | with_reducible exact lA | with_reducible exact lB | with_reducible exact rfl); (case qa2 => first | with_reducible exact e6 | with_reducible exact lC | with_reducible exact lD | with_reducible exact rfl); (case qa3 => refine' Nat.le_trans (Nat.add_le_add ?la ?lb) ?lc; (case la => (repeat' (first | with_reducible assumption | with_reducible apply lbR | with_reducible apply lbA | with_reducible apply lbC | with_reducible exact lbN | with_reducible exact Nat.le_refl _))); (case lb => (repeat' (first | with_reducible assumption | with_reducible apply lbR | with_reducible apply lbA | with_reducible apply lbC | with_reducible exact lbN | with_reducible exact Nat.le_refl _))); (case lc => exact Nat.le_of_ble_eq_true rfl))); intro t9 k9; (try dsimp only)) | ((with_reducible show wpAny _ _ (binaryOp Operator.Mult _ _) _ _ _); k_here; (with_reducible refine Bx.out ?_); k_dflt (refine' mulS ?qa1 ?qa2 ?qa3 ?qa4 ?_; (case qa1 => first | with_reducible exact lE | with_reducible exact lF | with_reducible exact e8 | with_reducible exact rfl); (case qa2 => first | decide | (simp only [fm2, fm3]; exact em0 _ (by decide))); (case qa3 => first | decide | (simp only [fm2, fm3]; exact Int.le_trans (Int.le_of_lt (em1 _ (by decide))) (by decide))); (case qa4 => first | decide | ((simp only [List.length_cons, List.length_nil]); omega))); intro t9 k9; (try dsimp only)) | ((with_reducible show wpAny _ _ (call (Value.type "str") _ _) _ _ _); k_here; (with_reducible refine Bx.out ?_); k_dflt (refine' strI ?qa1 ?qa2 ?_; (case qa1 => first | exact em0 _ (by decide) | omega); (case qa2 => first | exact Int.lt_trans (em1 _ (by decide)) (by decide) | omega)); intro t9 k9; (try dsimp only)) | (k_here; (with_reducible show wpAny _ _ (subscriptTail _ _ (Value.str _ _) (Value.int _ _)) _ _ _); (with_reducible refine Bx.out ?_); k_dflt (refine' markS ?_ ?qhs ?qht; (case qhs => with_unfolding_all rfl); (case qht => intro _; with_unfolding_all rfl)); intro t9 k9; (try dsimp only)) | (k_here; (with_reducible show wpAny _ _ (call (Value.ref 843) _) _ _ _); k_dflt (refine' folders_ ?B ?F ?X ?T ?hk ?h1 ?h2 ?N ?hn ?hI ?hl ?_; (case B => k_asm); (case F => k_asm); (case X => k_asm); (case T => k_asm); (case hk => exact rfl); (case N => k_asm); (case h1 => ktr_room); (case h2 => ktr_room); (case hn => k_mem); (case hI => assumption); (case hl => assumption); k_whole); intro _ _ _ _ _ _ _ _ _ _ _ _; (try dsimp only)) | (k_here; (try dsimp only [List.cons_append, List.nil_append]); (with_reducible show wpAny _ _ (call (Value.builtin _) [Value.ref _, _]) _ _ _); k_dflt (refine' append_K ?k1 ?k2 ?k3 ?_ ?z; (case k1 => k_asm); (case k2 => k_asm); (case k3 => k_upd); (case z => ((simp only [List.size_toArray, Array.size_push, List.length_append, List.length_cons, List.length_nil, sizeLine_eq]); omega)); k_whole); intro _ _ N'; (simp only [List.push_toArray] at N')) | (k_here; (with_reducible show wpAny _ _ (getMethod (Value.ref _) (PySem.Str.ofString "append") _) _ _ _); k_dflt (refine' listMethod_K ?N ?m PySem.F.slot_list_append PySem.F.type_list_append ?_; (case N => k_asm); (case m => k_mem)))); all_goals k_steps))
  unfold Stop9
  (rename News _ _ _ _ => nE)
  (rename Fr _ _ _ _ => fE)
  rename_i D9
  rename_i g' L' h1 FG' B' X' T' reps h2 hl1 h3 F3 F4 l9 h9 tk9 vs9 add9 c9 l8 l7 l6
  have hne : ∀ p ∈ ((l9, listOf vs9.toArray c9) :: (add9 ++ (na, listOf nv.toArray c) :: news)), p.1 ≠ reps := by
    intro p hp
    rcases List.mem_cons.mp hp with rfl | hp
    · exact Ne.symm (Nat.ne_of_lt (l8 _ (.head _)))
    · rcases List.mem_append.mp hp with hp | hp
      · exact Ne.symm (Nat.ne_of_lt (l6 _ (.head _) p hp))
      · rcases List.mem_cons.mp hp with rfl | hp
        · exact Nat.ne_of_lt hl1.1
        · exact Nat.ne_of_lt (kst_ltOf hl1.2 p hp)
  have nE2 : News g' L' h9 ((reps, listOf #[] 0) :: ((l9, listOf vs9.toArray c9) :: (add9 ++ (na, listOf nv.toArray c) :: news))) := news_sub nE (by
    intro p hp
    rcases List.mem_cons.mp hp with rfl | hp
    · exact .tail _ (List.mem_append.mpr (.inr (.head _)))
    · rcases List.mem_cons.mp hp with rfl | hp
      · exact .head _
      · rcases List.mem_append.mp hp with hp | hp
        · exact .tail _ (List.mem_append.mpr (.inl hp))
        · exact .tail _ (List.mem_append.mpr (.inr (.tail _ hp))))
  have D8 : DatAll ((l9, listOf vs9.toArray c9) :: (add9 ++ (na, listOf nv.toArray c) :: news)) vs9 (xs.map fldD) := D9.mono fun p hp => .tail _ (List.mem_append.mpr (.inl hp))
  have m1 : (na, listOf nv.toArray c) ∈ ((l9, listOf vs9.toArray c9) :: (add9 ++ (na, listOf nv.toArray c) :: news)) := .tail _ (List.mem_append.mpr (.inr (.head _)))
  have m2 : (l9, listOf vs9.toArray c9) ∈ ((l9, listOf vs9.toArray c9) :: (add9 ++ (na, listOf nv.toArray c) :: news)) := .head _
  have hbs0 : ∀ p ∈ news, p ∈ ((l9, listOf vs9.toArray c9) :: (add9 ++ (na, listOf nv.toArray c) :: news)) := fun p hp => .tail _ (List.mem_append.mpr (.inr (.tail _ hp)))
  generalize hbs : ((l9, listOf vs9.toArray c9) :: (add9 ++ (na, listOf nv.toArray c) :: news)) = bs at hne nE2 D8 m1 m2 hbs0
  clear nE D9
  refine ktu_zip (l1 := na) (lo1 := listOf nv.toArray c) (lo2 := listOf vs9.toArray c9) (xs := nv) (ys := vs9) rfl fE nE2 (.tail _ m1) rfl rfl (.tail _ m2) rfl rfl ?_
  intro I hI9
  refine items_ind (RepJ reps bs xs) ?nil ?cons _ 0 _ _ ?init
  case init => exact ⟨nv, vs9, [], xs, [], 0, rfl, rfl, hI, D8, rfl, rfl, .nil⟩
  case nil =>
    rintro _ m₁ led₁ ⟨nv₁, vs₁, done, xs₁, acc, c₁, e1, e2, i1, f1, rfl, hm, hacc⟩ h tk F1 N1
    have F2 := fr_map1 F1 hm
    clear nE2 fE F1
    have hx : xs₁ = [] := by
      cases i1 with
      | nil => rfl
      | cons _ _ i1 =>
        cases f1 with
        | cons _ f1 => cases e1
    subst hx
    rw [List.append_nil] at e2
    subst e2
    (k_steps; repeat' (refine Stop9.inn ?_; (first | ((with_reducible show wpAny _ _ (call (Value.builtin "str.replace") _ _) _ _ _); k_here; (try dsimp only [List.cons_append, List.nil_append]); k_dflt (refine' replace34 e6 lH ?qa1 ?qa2 ?qa3 (by decide +kernel) ?qa4 (by decide) ?_; (case qa1 => exact tokN (by (try dsimp only); omega)); (case qa2 => exact tokN (by (try dsimp only); omega)); (case qa3 => exact tokN (by (try dsimp only); omega)); (case qa4 => exact Nat.le_trans (fld_len _) (by decide))); intro t9 k9; (try dsimp only)) | ((with_reducible show wpAny _ _ (binaryOp Operator.Add _ _) _ _ _); k_here; (with_reducible refine Bx.out ?_); k_dflt (refine' addS ?qa1 ?qa2 ?qa3 ?_; (case qa1 => first | with_reducible exact lA | with_reducible exact lB | with_reducible exact rfl); (case qa2 => first | with_reducible exact e6 | with_reducible exact lC | with_reducible exact lD | with_reducible exact rfl); (case qa3 => refine' Nat.le_trans (Nat.add_le_add ?la ?lb) ?lc; (case la => (repeat' (first | with_reducible assumption | with_reducible apply lbR | with_reducible apply lbA | with_reducible apply lbC | with_reducible exact lbN | with_reducible exact Nat.le_refl _))); (case lb => (repeat' (first | with_reducible assumption | with_reducible apply lbR | with_reducible apply lbA | with_reducible apply lbC | with_reducible exact lbN | with_reducible exact Nat.le_refl _))); (case lc => exact Nat.le_of_ble_eq_true rfl))); intro t9 k9; (try dsimp only)) | ((with_reducible show wpAny _ _ (binaryOp Operator.Mult _ _) _ _ _); k_here; (with_reducible refine Bx.out ?_); k_dflt (refine' mulS ?qa1 ?qa2 ?qa3 ?qa4 ?_; (case qa1 => first | with_reducible exact lE | with_reducible exact lF | with_reducible exact e8 | with_reducible exact rfl); (case qa2 => first | decide | (simp only [fm2, fm3]; exact em0 _ (by decide))); (case qa3 => first | decide | (simp only [fm2, fm3]; exact Int.le_trans (Int.le_of_lt (em1 _ (by decide))) (by decide))); (case qa4 => first | decide | ((simp only [List.length_cons, List.length_nil]); omega))); intro t9 k9; (try dsimp only)) | ((with_reducible show wpAny _ _ (call (Value.type "str") _ _) _ _ _); k_here; (with_reducible refine Bx.out ?_); k_dflt (refine' strI ?qa1 ?qa2 ?_; (case qa1 => first | exact em0 _ (by decide) | omega); (case qa2 => first | exact Int.lt_trans (em1 _ (by decide)) (by decide) | omega)); intro t9 k9; (try dsimp only)) | (k_here; (with_reducible show wpAny _ _ (subscriptTail _ _ (Value.str _ _) (Value.int _ _)) _ _ _); (with_reducible refine Bx.out ?_); k_dflt (refine' markS ?_ ?qhs ?qht; (case qhs => with_unfolding_all rfl); (case qht => intro _; with_unfolding_all rfl)); intro t9 k9; (try dsimp only)) | (k_here; (with_reducible show wpAny _ _ (call (Value.ref 843) _) _ _ _); k_dflt (refine' folders_ ?B ?F ?X ?T ?hk ?h1 ?h2 ?N ?hn ?hI ?hl ?_; (case B => k_asm); (case F => k_asm); (case X => k_asm); (case T => k_asm); (case hk => exact rfl); (case N => k_asm); (case h1 => ktr_room); (case h2 => ktr_room); (case hn => k_mem); (case hI => assumption); (case hl => assumption); k_whole); intro _ _ _ _ _ _ _ _ _ _ _ _; (try dsimp only)) | (k_here; (try dsimp only [List.cons_append, List.nil_append]); (with_reducible show wpAny _ _ (call (Value.builtin _) [Value.ref _, _]) _ _ _); k_dflt (refine' append_K ?k1 ?k2 ?k3 ?_ ?z; (case k1 => k_asm); (case k2 => k_asm); (case k3 => k_upd); (case z => ((simp only [List.size_toArray, Array.size_push, List.length_append, List.length_cons, List.length_nil, sizeLine_eq]); omega)); k_whole); intro _ _ N'; (simp only [List.push_toArray] at N')) | (k_here; (with_reducible show wpAny _ _ (getMethod (Value.ref _) (PySem.Str.ofString "append") _) _ _ _); k_dflt (refine' listMethod_K ?N ?m PySem.F.slot_list_append PySem.F.type_list_append ?_; (case N => k_asm); (case m => k_mem)))); all_goals k_steps))
    (rename News _ _ _ _ => nE)
    (rename Fr _ _ _ _ => fE)
    refine ret reps h tk acc ((l9, listOf vs9.toArray c9) :: (add9 ++ [(na, listOf nv.toArray c)])) c₁ fE (news_sub nE fun p hp => ?_) hacc
    rw [← hbs]
    simp only [List.cons_append, List.append_assoc, List.nil_append] at hp
    exact hp
  case cons =>
    rintro a₁ i r m₁ led₁ ⟨nv₁, vs₁, done, xs₁, acc, c₁, e1, e2, i1, f1, rfl, hm, hacc⟩
    cases i1 with
    | nil => cases e1
    | cons x₁ tx i1 =>
    cases f1 with
    | cons d1 f1 =>
    obtain ⟨ta, tt, tu, tn, rfl, hta⟩ := fldD_inv d1
    cases e1
    intro v h tk hv F1
    obtain ⟨T9, t9, rfl, hT⟩ := hv
    intro o1 z1 o2 z2 o3 z3 o4 z4 o5 z5 N1
    have F2 := fr_map1 F1 hm
    clear F1
    have hra := hne _ hta
    have hrI : @LT.lt Nat _ reps I := hI9 (reps, _) (.head _)
    have hal : acc.length ≤ 2000 := by
      have q1 := hacc.length
      rw [List.length_map, repsT_len] at q1
      have q2 := congrArg List.length e2
      rw [List.length_append] at q2
      omega
    dsimp only at hra
    dsimp only [envOf] at F2
    dsimp only [envOf, List.cons_append, List.nil_append] at N1
    dsimp only at hT z1 z2 z3 z4 z5
    have N2 := news_sub (l' := (ta, { cls := .type "tuple", data := .seq #[.int (x₁ % 64) tt, .str (mkS (fld x₁)) tu] tn }) :: (reps, listOf acc.toArray c₁) :: (I + 4, o1) :: (I + 2, o2) :: (I + 3, o3) :: (I, o4) :: (I + 1, o5) :: bs) N1 (by repeat' (first | with_reducible exact sub_refl | with_reducible refine sub_cons ?_ ?_ | with_reducible refine sub_tail ?_ | with_reducible assumption | with_reducible exact List.mem_cons_self | with_reducible refine List.mem_cons_of_mem _ ?_))
    clear N1 nE2 fE
    have b1 := fld_len x₁
    have b2 := dig_len x₁
    have b3 : (x₁.fmod 2).toNat ≤ 1 := by rw [fm2]; exact emN _ 1 (by decide) (by decide)
    have b4 : (x₁.fmod 3).toNat ≤ 2 := by rw [fm3]; exact emN _ 2 (by decide) (by decide)
    have b5 : (rp 34 [34, 34] (fld x₁)).length ≤ 6 := Nat.le_trans (rp_len 34 [34, 34] 2 (by decide) (by decide) (fld x₁)) (Nat.mul_le_mul_left 2 b1)
    (k_steps; repeat' (refine Stop9.inn ?_; (first | ((with_reducible show wpAny _ _ (call (Value.builtin "str.replace") _ _) _ _ _); k_here; (try dsimp only [List.cons_append, List.nil_append]); k_dflt (refine' replace34 e6 lH ?qa1 ?qa2 ?qa3 (by decide +kernel) ?qa4 (by decide) ?_; (case qa1 => exact tokN (by (try dsimp only); omega)); (case qa2 => exact tokN (by (try dsimp only); omega)); (case qa3 => exact tokN (by (try dsimp only); omega)); (case qa4 => exact Nat.le_trans (fld_len _) (by decide))); intro t9 k9; (try dsimp only)) | ((with_reducible show wpAny _ _ (binaryOp Operator.Add _ _) _ _ _); k_here; (with_reducible refine Bx.out ?_); k_dflt (refine' addS ?qa1 ?qa2 ?qa3 ?_; (case qa1 => first | with_reducible exact lA | with_reducible exact lB | with_reducible exact rfl); (case qa2 => first | with_reducible exact e6 | with_reducible exact lC | with_reducible exact lD | with_reducible exact rfl); (case qa3 => refine' Nat.le_trans (Nat.add_le_add ?la ?lb) ?lc; (case la => (repeat' (first | with_reducible assumption | with_reducible apply lbR | with_reducible apply lbA | with_reducible apply lbC | with_reducible exact lbN | with_reducible exact Nat.le_refl _))); (case lb => (repeat' (first | with_reducible assumption | with_reducible apply lbR | with_reducible apply lbA | with_reducible apply lbC | with_reducible exact lbN | with_reducible exact Nat.le_refl _))); (case lc => exact Nat.le_of_ble_eq_true rfl))); intro t9 k9; (try dsimp only)) | ((with_reducible show wpAny _ _ (binaryOp Operator.Mult _ _) _ _ _); k_here; (with_reducible refine Bx.out ?_); k_dflt (refine' mulS ?qa1 ?qa2 ?qa3 ?qa4 ?_; (case qa1 => first | with_reducible exact lE | with_reducible exact lF | with_reducible exact e8 | with_reducible exact rfl); (case qa2 => first | decide | (simp only [fm2, fm3]; exact em0 _ (by decide))); (case qa3 => first | decide | (simp only [fm2, fm3]; exact Int.le_trans (Int.le_of_lt (em1 _ (by decide))) (by decide))); (case qa4 => first | decide | ((simp only [List.length_cons, List.length_nil]); omega))); intro t9 k9; (try dsimp only)) | ((with_reducible show wpAny _ _ (call (Value.type "str") _ _) _ _ _); k_here; (with_reducible refine Bx.out ?_); k_dflt (refine' strI ?qa1 ?qa2 ?_; (case qa1 => first | exact em0 _ (by decide) | omega); (case qa2 => first | exact Int.lt_trans (em1 _ (by decide)) (by decide) | omega)); intro t9 k9; (try dsimp only)) | (k_here; (with_reducible show wpAny _ _ (subscriptTail _ _ (Value.str _ _) (Value.int _ _)) _ _ _); (with_reducible refine Bx.out ?_); k_dflt (refine' markS ?_ ?qhs ?qht; (case qhs => with_unfolding_all rfl); (case qht => intro _; with_unfolding_all rfl)); intro t9 k9; (try dsimp only)) | (k_here; (with_reducible show wpAny _ _ (call (Value.ref 843) _) _ _ _); k_dflt (refine' folders_ ?B ?F ?X ?T ?hk ?h1 ?h2 ?N ?hn ?hI ?hl ?_; (case B => k_asm); (case F => k_asm); (case X => k_asm); (case T => k_asm); (case hk => exact rfl); (case N => k_asm); (case h1 => ktr_room); (case h2 => ktr_room); (case hn => k_mem); (case hI => assumption); (case hl => assumption); k_whole); intro _ _ _ _ _ _ _ _ _ _ _ _; (try dsimp only)) | (k_here; (try dsimp only [List.cons_append, List.nil_append]); (with_reducible show wpAny _ _ (call (Value.builtin _) [Value.ref _, _]) _ _ _); k_dflt (refine' append_K ?k1 ?k2 ?k3 ?_ ?z; (case k1 => k_asm); (case k2 => k_asm); (case k3 => k_upd); (case z => ((simp only [List.size_toArray, Array.size_push, List.length_append, List.length_cons, List.length_nil, sizeLine_eq]); omega)); k_whole); intro _ _ N'; (simp only [List.push_toArray] at N')) | (k_here; (with_reducible show wpAny _ _ (getMethod (Value.ref _) (PySem.Str.ofString "append") _) _ _ _); k_dflt (refine' listMethod_K ?N ?m PySem.F.slot_list_append PySem.F.type_list_append ?_; (case N => k_asm); (case m => k_mem)))); all_goals k_steps))
    (rename News _ _ _ _ => nE)
    (rename Fr _ _ _ _ => fE)
    simp only [fm2, fm3] at nE
    refine rep_end fE nE ?_ ⟨.tail _ m1, .tail _ m2, True.intro⟩ ⟨0, _, _, done ++ [x₁], _, _, _, rfl, ?_, i1, f1, rfl, rfl, acc_snoc hacc⟩
    · intro p hp q hq
      have hlt : @LT.lt Nat _ p.1 I := by
        rcases List.mem_cons.mp hp with rfl | hp
        · exact hrI
        · exact hI9 p (.tail _ hp)
      simp only [List.mem_cons, List.not_mem_nil, or_false] at hq
      rcases hq with rfl | rfl | rfl | rfl | rfl <;> first | exact Nat.ne_of_lt (Nat.lt_of_lt_of_le hlt (Nat.le_add_right _ _)) | exact Nat.ne_of_lt hlt
    · rw [e2]; simp
end
end

section
section
variable {w : World} {pg : Program} {lz : List Str} {mean : ExcName → Option Value} {mg mb : Str → Option Value} {dp un : Nat} {gd : Option (List Code)} {cn : Str} {cs : Scope} {a : Addr} {ccd : Value} {cl : List (Str × Addr)} {outer : List Env} {A₀ : Around} {base h₀ : Heap} {L : Addr} {m : Str → Option Value} {s : Shared} {Q E : Value → Shared → Prop}

theorem quote_ {env : Env} {b c : Nat} {r : List Nat} {t : Tok}
   (B : Below A₀ base outer h₀) (F : Fr h₀ L s.heap m) (X : (KY w.params).In h₀) (T : Top pg lz mean mg mb h₀) (hf : env.frame = some L) (hk : env.scope.kind = .function)
   (hdp : dp + 50 ≤ 700) (hun : un + 300 ≤ 4000) (hl : r.length ≤ 1000) (hm : ((Sre.forSearch cdN ⟨50 :: b :: c :: 32 :: r⟩ 0 0 (r.length + 4) false).runFor 4).outcome = some .matched)
   (ret : ∀ (h' : Heap) (tk' : Nat) (t' : Tok), Keeps s.heap h' → Q (.str (mkS (quoT (50 :: b :: c :: 32 :: r))) t') { s with heap := h', toks := tk' }) :
   wpAny (model PySem.Challenge.rw_nq0264_01.prog w) { handled := none, depth := dp, frames := some (env :: outer), guards := gd, units := un } (call (.ref 838) [.str (mkS (50 :: b :: c :: 32 :: r)) t]) Q E s := by
  have st0 : ∀ M A x t Q E s, Nonempty (StopP (wpAny M A (PySem.truthy (Value.str x t)) Q E s)) := by intros; exact StopP.mk
  have st1 : ∀ M A p a b c Q E s, Nonempty (StopP (wpAny M A (callWith p (Value.ref 831) a b c) Q E s)) := by intros; exact StopP.mk
  have st2 : ∀ h q, Nonempty (StopP ((Heap.get? h 831 = some boundS) ∧ q)) := by intros; exact StopP.mk
  have st3 : ∀ M A as ks Q E s, Nonempty (StopP (wpAny M A (call (Value.ref 831) as ks) Q E s)) := by intros; exact StopP.mk
  have st4 : ∀ M A as ks Q E s, Nonempty (StopP (wpAny M A (call (Value.builtin "str.replace") as ks) Q E s)) := by intros; exact StopP.mk
  have st5 : ∀ M A a t b u Q E s, Nonempty (StopP (wpAny M A (binaryOp Operator.Add (Value.str a t) (Value.str b u)) Q E s)) := by intros; exact StopP.mk
  w_on
  refine wpAny_call ?_
  refine' enterP ?k1 ?k2 ?k3 ?k5 ?kA ?kF ?kK ?k6 ?k7 ?k8 ?k9 ?kB ?_ ?c2 ?c3 ?c4 ?c5
  case kA => exact rfl
  case k2 => assumption
  case k1 => assumption
  case k3 => assumption
  case k5 => assumption
  case kF => assumption
  case kK => assumption
  case k6 => k_is
  case k7 => k_is
  case k8 => (show dp < recursionLimit; simp only [recursionLimit]; omega)
  case k9 => first | exact BindsTo.of_eq rfl | exact binds_K (by k_in) rfl (by k_is) rfl rfl rfl
  case kB => exact locs rfl
  case c2 => exact rfl
  case c3 => exact rfl
  case c4 => exact rfl
  case c5 => decide
  intro L' h' F' N' B' X' T'
  clear F X T B
  (try dsimp only)
  (try k_lift B')
  (try k_fold)
  have b5 := rp_len 39 [39, 34, 39, 34, 39] 5 (by decide) (by decide) (50 :: b :: c :: 32 :: r)
  simp only [List.length_cons] at b5
  (k_steps; repeat' (refine Stop9.inn ?_; (first | ((with_reducible show wpAny _ _ (PySem.truthy _) _ _ _); k_here; k_dflt (refine' truthyS ?a ?_; (case a => ((simp only [List.length_cons]); omega))); intro _; (try dsimp only)) | (k_here; (with_reducible show wpAny _ _ (callWith _ (Value.ref 831) _ _ _) _ _ _); refine callWith_re ?_) | (k_here; (with_reducible show (Heap.get? _ 831 = some boundS) ∧ _); refine ⟨at831 (by k_asm) (by k_asm), ?_⟩) | (k_here; (with_reducible show wpAny _ _ (call (Value.ref 831) _) _ _ _); k_dflt (refine' search_ ?F ?X ?N ?m ?r ?_; (case F => k_asm); (case X => k_asm); (case N => k_asm); (case m => assumption); (case r => assumption); k_whole; intro _ _ _ _ _); (try dsimp only)) | ((with_reducible show wpAny _ _ (call (Value.builtin "str.replace") _ _) _ _ _); k_here; (try dsimp only [List.cons_append, List.nil_append]); k_dflt (refine' replaceQ Mine.e7 lQ ?a1 ?a2 ?a3 (by decide +kernel) ?a4 (by decide) ?_; (case a1 => exact tokN (by (try dsimp only); omega)); (case a2 => exact tokN (by (try dsimp only); omega)); (case a3 => exact tokN (by (try dsimp only); omega)); (case a4 => ((simp only [List.length_cons]); omega))); intro _ _; (try dsimp only)) | (k_here; (with_reducible refine Bx.out ?_); k_dflt (refine' addS ?a1 ?a2 ?a3 ?_; (case a1 => first | with_reducible exact Mine.e7 | with_reducible exact rfl); (case a2 => first | with_reducible exact Mine.e7 | with_reducible exact rfl); (case a3 => ((simp only [List.length_append, List.length_cons, List.length_nil]); omega))); intro _ _; (try dsimp only))); all_goals k_steps))
  (rename Fr _ _ _ _ => fE)
  exact ret _ _ _ fE.keep
end
end

section
section
variable {w : World} {pg : Program} {lz : List Str} {mean : ExcName → Option Value} {mg mb : Str → Option Value} {dp un : Nat} {gd : Option (List Code)} {cn : Str} {cs : Scope} {a : Addr} {ccd : Value} {cl : List (Str × Addr)} {outer : List Env} {A₀ : Around} {base h₀ : Heap} {L : Addr} {m : Str → Option Value} {s : Shared} {Q E : Value → Shared → Prop}

theorem elt_ {env : Env} {C : Addr} {code : Value} {m₂ : Str → Option Value} {word : List Nat} {t : Tok} {p1 p2 p3 : Pos}
   (B : Below A₀ base outer h₀) (F : Fr h₀ C s.heap m₂) (X : (KY w.params).In h₀) (T : Top pg lz mean mg mb h₀) (hdp : dp + 50 ≤ 700) (hun : un + 300 ≤ 4000) (hg : env.globals = mainGlobals)
   (hv : m₂ (Str.ofString "arg") = some (.str (mkS word) t)) (hw : WordOk word)
   (ret : ∀ (h' : Heap) (tk' : Nat) (t' : Tok), Keeps s.heap h' → Q (.str (mkS (quoT word)) t') { s with heap := h', toks := tk' }) :
   wpAny (model PySem.Challenge.rw_nq0264_01.prog w) { handled := none, depth := dp, frames := some (genEnv gS [] C code builtinsNs env :: outer), guards := gd, units := un } (eval ((Expr.Name (Str.ofString "quote") p1).Call [Expr.Name (Str.ofString "arg") p2] [] p3) (genEnv gS [] C code builtinsNs env)) Q E s := by
  obtain ⟨b, c, r, rfl, hl, hm⟩ := hw
  refine Call_ ?_
  refine Name_function_global rfl rfl (loadGlobal_global (env := genEnv gS [] C code builtinsNs env) (show s.heap.Ns env.globals mg from hg ▸ (T.keeps F.keep).g) (mg_of (v := .ref 838) X T.g (by k_is)) ?_) (by decide)
  refine callWith_K X (by k_is) ?_
  refine spliced_cons (wpAny_Name (wpAny_loadName_local rfl rfl F.ns hv ?_) (by decide))
  refine spliced_nil ⟨X.keeps F.keep, ?_⟩
  exact quote_ B F X T rfl rfl hdp hun hl hm ret
theorem join_ {rest : List (Addr × Obj)} {na : Nat} {nv : List Value} {c : Nat} {ws : List (List Nat)}
   (B : Below A₀ base outer h₀) (F : Fr h₀ L s.heap m) (X : (KY w.params).In h₀) (T : Top pg lz mean mg mb h₀) (hk : cs.kind = .function)
   (hdp : dp + 100 ≤ 700) (hun : un + 800 ≤ 4000) (N : News h₀ L s.heap ((825, tabO #[]) :: (na, listOf nv.toArray c) :: rest)) (h825 : ∀ p ∈ rest, p.1 ≠ 825) (hna : na ≠ 825) (hsz : nv.length ≤ 1000) (hlen : ws.length = nv.length) (hW : ∀ (i : Nat) (v : Value), nv.toArray[i]? = some v → ∃ word t, ws[i]? = some word ∧ v = .str (mkS word) t ∧ WordOk word) (hT : ((ws.map quoT).map List.length).sum + ws.length ≤ 100000)
   (ret : ∀ (h' : Heap) (tk' : Nat) (gs' : Array GenState) (t' : Tok) (ps' : Array Value), (AllBare s.gens → AllBare gs') → Fr h₀ L h' m → News h₀ L h' ((825, tabO ps') :: (na, listOf nv.toArray c) :: rest) → Q (.str (mkS (joinT (ws.map quoT))) t') { s with heap := h', toks := tk', gens := gs' }) :
   wpAny (model PySem.Challenge.rw_nq0264_01.prog w) (ktrTop dp un gd cn cs L a ccd cl outer) (call (.ref 830) [.ref na]) Q E s := by
  have st0 : ∀ M A e g c p env Q E s, Nonempty (StopP (wpAny M A (eval (Expr.GeneratorExp e g c p) env) Q E s)) := by intros; exact StopP.mk
  have st1 : ∀ M A as ks Q E s, Nonempty (StopP (wpAny M A (call (Value.builtin "str.join") as ks) Q E s)) := by intros; exact StopP.mk
  w_on
  refine wpAny_call ?_
  k_dflt cell_enter
  k_steps
  unfold Stop9
  rename_i g' L' h1 FG' F' N' B' X' T'
  refine wpAny_GeneratorExp_make (cl := []) rfl (by with_unfolding_all rfl) (by decide) (by rfl) (by rfl) (by ktr_room) ?_ (by intro x; rfl)
  refine nameX_L (cl := []) F' (by rfl) ?_
  have zl := (N' (na, listOf nv.toArray c) (.tail _ (.head _)))
  have hl : h1.IsList na nv.toArray := ⟨_, zl.1, rfl, _, rfl⟩
  refine wpAny_pyIter_list hl ⟨?lim, ?code⟩
  case lim => exact T'.nolimit.keeps fun b o e => Heap.get?_push_of_some _ (F'.keep b o e)
  case code =>
  have up2 : ∀ b o, h1.get? b = some o → (h1.push { cls := .type "list_iterator", data := .fields #[.ref na, .int 0 0] }).get? b = some o := fun b o e => Heap.get?_push_of_some _ e
  have gI : (h1.push { cls := .type "list_iterator", data := .fields #[.ref na, .int 0 0] }).get? h1.objs.size = some { cls := .type "list_iterator", data := .fields #[.ref na, .int 0 0] } := Heap.get?_push_size _ rfl
  generalize hH2 : h1.push { cls := .type "list_iterator", data := .fields #[.ref na, .int 0 0] } = h2 at up2 gI
  have z825 := (N' (825, tabO #[]) (.head _))
  have c0 := isCode (w := w) (ps := #[]) (up2 _ _ (at829 (X'.keeps F'.keep))) (up2 _ _ z825.1) (by exact True.intro)
  refine wpAny_genexprCodeX (P := 825) rfl c0 ⟨⟨_, _, up2 _ _ (at829 (X'.keeps F'.keep)), rfl, rfl, rfl⟩, up2 _ _ z825.1⟩ (by rfl) ?_
  intro code h3 tk3 ext3 _ _ _ _ ht3 _
  have up3 : ∀ b o, b ≠ 825 → h1.get? b = some o → h3.get? b = some o := fun b o hb e => ext3 b o hb (up2 b o e)
  have upg : ∀ b o, g'.get? b = some o → h3.get? b = some o := fun b o e => up3 b o (fun q => by rw [q, z825.2.2] at e; cases e) (F'.keep b o e)
  obtain ⟨bm, ob, hbm, hne, hob, hoc, hod, hop⟩ := T'.bmain
  refine wpAny_builtinsFor (T'.g.keeps upg) hbm hne (upg _ _ hob) hoc hod hop ?_
  intro h4 hn4 hs4
  dsimp only at hn4 hs4 ⊢
  refine spliced_nil ?_
  have hsz4 : h4.objs.size = h3.objs.size + 1 := by rw [hs4.1, Heap.size_push]
  have up4 : ∀ b o, h3.get? b = some o → h4.get? b = some o := fun b o e => hs4.extBut b o (Nat.ne_of_lt (Heap.lt_size e)) (Heap.get?_push_of_some _ e)
  have hI825 : h1.objs.size ≠ 825 := Nat.ne_of_gt (Heap.lt_size z825.1)
  have hI3 : @LT.lt Nat _ h1.objs.size h3.objs.size := Heap.lt_size (ext3 _ _ hI825 gI)
  have hlim3 : h3.NoLimit := T'.nolimit.keeps upg
  show wpAny _ _ (call (.builtin "str.join") [.str (Str.ofString " ") tk, .ref h4.objs.size]) _ _ _
  refine SC.joinGen (WalksS.genexpQ rfl h4.objs.size s.gens.size h3.objs.size (List.range h3.objs.size) [h1.objs.size] pzT nv.toArray.size (fun i y => ∃ word t, ws[i]? = some word ∧ y = .str (mkS (quoT word)) t) ?haC ?haf ?hsub ?hroom ?hcs ?hcC ?hcw) ?hT ?hst ?hfp ?hI ?hstr ?hq ?hsz
  case haC => rw [hsz4]; exact Nat.succ_ne_self _
  case haf => intro q; have := List.mem_range.mp q; omega
  case hsub => intro b hb; rw [List.mem_singleton.mp hb]; exact List.mem_range.mpr hI3
  case hroom => ktr_room
  case hcs => exact List.mem_range.mpr (let ⟨_, hn, _⟩ := hlim3; hn.lt)
  case hcC => exact Nat.ne_of_lt (let ⟨_, hn, _⟩ := hlim3; hn.lt)
  case hcw => intro q; exact absurd (let ⟨_, hn, _⟩ := T'.nolimit.keeps F'.keep; hn.lt) (by rw [List.mem_singleton.mp q]; exact Nat.lt_irrefl _)
  case hT => exact fun i s st => st.1.typeIs
  case hfp =>
    intro b hb
    rw [Heap.size_push, hsz4]
    rcases List.mem_cons.mp hb with rfl | hb
    · show @LT.lt Nat _ _ _; omega
    · rcases List.mem_cons.mp hb with rfl | hb
      · show @LT.lt Nat _ _ _; omega
      · have := List.mem_range.mp hb
        show @LT.lt Nat _ _ _; omega
  case hI => exact .head _
  case hstr => rintro i v ⟨_, _, word, t, _, rfl⟩; exact ⟨_, _, rfl⟩
  case hsz => rw [passT, List.length_range, sizeLine_eq, List.size_toArray]; omega
  case hst =>
    refine' genAtQ (cenv := genEnv gS [] h3.objs.size (.ref code) builtinsNs (envOf (Str.ofString "join") jS L' 830 (.ref 829))) (m := fun y => if y = Str.ofString ".0" then some (.ref h1.objs.size) else none) ?hh (fun A' hA => (Walks.list hA h1.objs.size na ?b1 nv.toArray).mono_fp ?b2) _ ?b3 ?b4 ?b5 ?b6 ?elt ?hg ?hgs ?hst ?hn ?hl
    case hgs => exact Array.getElem?_push_size ..
    case hh => rfl
    case b3 => rfl
    case b4 => rfl
    case b5 => rfl
    case b1 => exact Nat.ne_of_lt (Heap.lt_size zl.1)
    case b2 =>
      intro b hb
      rcases List.mem_cons.mp hb with rfl | hb
      · exact List.mem_range.mpr hI3
      · rw [List.mem_singleton.mp hb]
        exact List.mem_range.mpr (Nat.lt_trans (Heap.lt_size zl.1) hI3)
    case b6 => intro q; exact absurd (List.mem_range.mp q) (Nat.lt_irrefl _)
    case hg => exact ⟨_, _, _, Heap.get?_push_size _ rfl, rfl, rfl, rfl⟩
    case hst =>
      refine ⟨⟨_, Heap.get?_push_of_some _ (up4 _ _ (ext3 _ _ ?_ gI)), rfl, rfl⟩, ⟨_, Heap.get?_push_of_some _ (up4 _ _ (up3 _ _ hna zl.1)), rfl, _, rfl⟩⟩
      exact hI825
    case hn => exact hn4.push _
    case hl => exact (hlim3.keeps up4).keeps fun b o e => Heap.get?_push_of_some _ e
    case elt =>
      intro E' i v s₂ m₂ hv hn2 hm2 hk2
      obtain ⟨word, t, hw1, rfl, hw2⟩ := hW i v hv
      have N8 : News g' L' h1 [(825, tabO #[])] := news_sub6 N' (fun p hp => by rw [List.mem_singleton.mp hp]; exact .head _)
      obtain ⟨FG, BG, st, _⟩ := groundX (s := { s with heap := h1 }) (R := fun _ _ => True) (A := (ktrTop dp un gd cn cs L a ccd cl outer).deeper (envOf (Str.ofString "join") jS L' 830 (.ref 829))) (env := envOf (Str.ofString "join") jS L' 830 (.ref 829)) B' F' N8 rfl rfl rfl
      refine elt_ BG ?_ (X'.keeps st) (T'.keeps st) ?_ ?_ rfl hm2 hw2 (fun h'' tk'' t'' k => ⟨⟨word, t'', hw1, rfl⟩, h'', tk'', rfl, k⟩)
      · refine ⟨hn2, fun b o e => ?_, ?_⟩
        · have e1 := of_hideAll _ e
          have hb : b ≠ 825 := by
            intro q
            have e0 : (hideAll h1 [825]).get? 825 = none := hideAll_none _ (List.mem_cons_self ..)
            rw [q] at e
            exact absurd (e0.symm.trans e) (by simp)
          have e2 := up3 b o hb e1
          have e3 := hk2 b (List.mem_range.mpr (Heap.lt_size e2)) (fun q => by rw [List.mem_singleton.mp q] at e1; exact absurd (Heap.lt_size e1) (Nat.lt_irrefl _)) o (Heap.get?_push_of_some _ (up4 _ _ e2))
          exact e3
        · rw [hideAll_size]; exact Nat.le_of_lt hI3
      · show dp + 1 + 0 + 1 + 50 ≤ 700
        omega
      · show un + 3 + 1 + 1 + 1 + 0 + 3 + 300 ≤ 4000
        omega
  case hq =>
    intro s' l hm hit
    have hl8 : l.map (·.1) = (ws.map quoT).map mkS := by
      obtain ⟨q1, q2⟩ := hit
      rw [passT, List.length_range, List.size_toArray, List.size_toArray] at q1
      have q3 : (strValues l).length = l.length := by unfold strValues; rw [List.length_map]
      apply List.ext_getElem?
      intro i
      rw [List.getElem?_map, List.getElem?_map, List.getElem?_map]
      cases hi : l[i]? with
      | none =>
        have : ws[i]? = none := by
          rw [List.getElem?_eq_none_iff] at hi ⊢
          omega
        rw [this]; rfl
      | some p =>
        have q4 : (strValues l).toArray[i]? = some (.str p.1 p.2) := by
          rw [List.getElem?_toArray]; unfold strValues; rw [List.getElem?_map, hi]; rfl
        obtain ⟨j, hj, word, t, hw, he⟩ := q2 i _ q4
        rw [passT] at hj
        have hj2 : j = i := by
          have hlt : i < (List.range nv.toArray.size).length := by
            rcases Nat.lt_or_ge i (List.range nv.toArray.size).length with h | h
            · exact h
            · rw [List.getElem?_eq_none h] at hj; cases hj
          rw [List.getElem?_eq_getElem hlt, List.getElem_range] at hj
          exact (Option.some.inj hj).symm
        rw [hj2] at hw
        rw [hw]
        exact congrArg some (Value.str.inj he).1
    rw [hl8, join_eq]
    refine ⟨joinOk_of_weight ?_ (by rw [e5]; exact Nat.le_succ_of_le (by decide)), fun t' k => ?_⟩
    · rw [List.map_map, List.length_map, List.length_map]
      have : (List.map ((fun x : Str => x.length) ∘ mkS) (ws.map quoT)) = (ws.map quoT).map List.length := List.map_congr_left fun x _ => rfl
      rw [this]
      omega
    · obtain ⟨hh, gg, dd, tt, oo⟩ := s'
      obtain ⟨m1, m2, m3, m4, m5⟩ := hm
      dsimp only at m1 m3 m4 ⊢
      subst m3 m4
      have ka : ∀ b o, @LT.lt Nat _ b h1.objs.size → h3.get? b = some o → hh.get? b = some o := fun b o hlt e => m1 b o (fun q => by
        rcases List.mem_cons.mp q with q | q
        · rw [q] at hlt; exact absurd (Nat.lt_trans hI3 hlt) (Nat.lt_irrefl _)
        · rw [List.mem_singleton.mp q] at hlt; exact absurd hlt (Nat.lt_irrefl _)) (Heap.get?_push_of_some _ (up4 _ _ e))
      have kb : ∀ b o, b ≠ 825 → h1.get? b = some o → hh.get? b = some o := fun b o hb e => ka b o (Heap.lt_size e) (up3 b o hb e)
      have F5 : Fr g' L' hh _ := ⟨F'.ns.at' fun o e => kb _ o (fun q => z825.2.1 q.symm) e, fun b o e => kb b o (fun q => by rw [q, z825.2.2] at e; cases e) (F'.keep b o e), F'.above⟩
      have hop3 := ht3.2
      generalize hps : (#[] ++ #[rawInt _, rawInt _, Value.ref code] : Array Value) = ps5 at hop3
      have N5 : News g' L' hh ((825, tabO ps5) :: (na, listOf nv.toArray c) :: rest) := by
        intro p hp
        rcases List.mem_cons.mp hp with rfl | hp
        · exact ⟨ka _ _ (Heap.lt_size z825.1) hop3, z825.2⟩
        · have z := N' p (.tail _ hp)
          refine ⟨kb _ _ ?_ z.1, z.2⟩
          rcases List.mem_cons.mp hp with rfl | hp
          · exact hna
          · exact h825 p hp
      clear F' N' FG'
      k_steps
      (rename News _ _ _ _ => nE)
      (rename Fr _ _ _ _ => fE)
      exact ret _ _ _ _ _ (fun hb => (hb.push rfl).moved m2) fE nE
end
end

section
section
variable {w : World} {pg : Program} {lz : List Str} {mean : ExcName → Option Value} {mg mb : Str → Option Value} {dp un : Nat} {gd : Option (List Code)} {cn : Str} {cs : Scope} {a : Addr} {ccd : Value} {cl : List (Str × Addr)} {outer : List Env} {A₀ : Around} {base h₀ : Heap} {L : Addr} {m : Str → Option Value} {s : Shared} {Q E : Value → Shared → Prop}

theorem parse257_ {news : List (Addr × Obj)} {r : List Nat} {t : Tok}
   (B : Below A₀ base outer h₀) (F : Fr h₀ L s.heap m) (X : (KY w.params).In h₀) (T : Top pg lz mean mg mb h₀) (hk : cs.kind = .function)
   (hdp : dp + 50 ≤ 700) (hun : un + 300 ≤ 4000) (N : News h₀ L s.heap news) (hl : r.length ≤ 1000)
   (ret : ∀ (h' : Heap) (tk' : Nat) (t' : Tok), Fr h₀ L h' m → News h₀ L h' news → Q (.str (mkS (p257 r)) t') { s with heap := h', toks := tk' }) :
   wpAny (model PySem.Challenge.rw_nq0264_01.prog w) (ktrTop dp un gd cn cs L a ccd cl outer) (call (.ref 95) [.str (mkS (50 :: 53 :: 55 :: 32 :: 34 :: r)) t]) Q E s := by
  have st0 : ∀ M A c b o q env Q E s, Nonempty (StopP (wpAny M A (exec (Stmt.While c b o q) env) Q E s)) := by intros; exact StopP.mk
  have st1 : ∀ M A as ks Q E s, Nonempty (StopP (wpAny M A (call (Value.builtin "len") as ks) Q E s)) := by intros; exact StopP.mk
  have st2 : ∀ M A a t b u Q E s, Nonempty (StopP (wpAny M A (binaryOp Operator.Add (Value.str a t) (Value.str b u)) Q E s)) := by intros; exact StopP.mk
  have st3 : ∀ M A x p y q a t i u Q E s, Nonempty (StopP (wpAny M A (subscriptTail (Expr.Name x p) (Expr.Name y q) (Value.str a t) (Value.int i u)) Q E s)) := by intros; exact StopP.mk
  w_on
  refine wpAny_call ?_
  k_dflt cell_enter
  have x1 : (Txt.slice (mkS (50 :: 53 :: 55 :: 32 :: 34 :: r)) none (some 3) != Str.ofString "257") = false := by rw [q257a r (by omega), l257]; decide
  have x2 : (Txt.slice (mkS (50 :: 53 :: 55 :: 32 :: 34 :: r)) (some 3) (some 5) != Str.ofString " \"") = false := by rw [q257b r (by omega), lsq]; decide
  (k_steps; repeat' (refine Stop9.inn ?_; (first | ((with_reducible show wpAny _ _ (call (Value.builtin "len") _ _) _ _ _); k_here; (try dsimp only [List.cons_append, List.nil_append]); (with_reducible refine Bx.out ?_); k_dflt (refine' lenS ?a ?_; (case a => first | assumption | ((simp only [List.length_cons]); exact Nat.le_trans (Nat.add_le_add_right hl 5) (by decide)) | ((simp only [List.length_cons]); omega))); intro _ _; (try dsimp only)) | ((with_reducible show wpAny _ _ (binaryOp Operator.Add _ _) _ _ _); k_here; (with_reducible refine Bx.out ?_); k_dflt (refine' addS ?a1 ?a2 ?a3 ?_; (case a1 => with_reducible exact rfl); (case a2 => with_reducible exact rfl); (case a3 => first | assumption | ((simp only [List.length_append, List.length_cons, List.length_nil]); omega))); intro _ _; (try dsimp only)) | (k_here; (with_reducible show wpAny _ _ (subscriptTail _ _ (Value.str _ _) (Value.int _ _)) _ _ _); (with_reducible refine Bx.out ?_); k_dflt (refine' itemS ?hx ?h0 ?h1 ?hl ?_ ?hs ?ht; (case hx => with_reducible exact rfl); (case h0 => first | exact Int.natCast_nonneg _ | omega); (case h1 => first | assumption | omega); (case hl => first | assumption | omega); (case hs => with_unfolding_all rfl); (case ht => intro _; with_unfolding_all rfl)); intro _ _; (try dsimp only))); all_goals k_steps))
  unfold Stop9
  (rename Fr _ _ _ _ => F1)
  (rename News _ _ _ _ => N1)
  generalize hll : 50 :: 53 :: 55 :: 32 :: 34 :: r = l at *
  have hlen : l.length = r.length + 5 := by rw [← hll]; simp
  have hl5 : l.length ≤ 1005 := by rw [hlen]; exact Nat.add_le_add_right hl 5
  have hl6 : l.length ≤ 100000 := Nat.le_trans hl5 (by decide)
  have hdrop : l.drop 5 = r := by rw [← hll]; rfl
  refine par_go (news := news) (l := l) (res := p257 r) (n₀ := l.length - 5) F1 N1 ?init ?turn ?hE ?rest
  case init => exact ⟨5, [], _, _, _, _, rfl, by rw [hlen]; exact Nat.le_add_left 5 _, by rw [hdrop]; rfl, Nat.zero_le _, rfl, rfl, by rw [← e0]; rfl, rfl, rfl⟩
  case hE => passes_own
  case rest =>
    clear F1 N1
    rintro f s' ⟨rfl, h', tk, m', ta, rfl, F', N', hm1⟩
    have F2 := fr_map1' F' hm1
    clear F'
    (k_steps; repeat' (refine Stop9.inn ?_; (first | ((with_reducible show wpAny _ _ (call (Value.builtin "len") _ _) _ _ _); k_here; (try dsimp only [List.cons_append, List.nil_append]); (with_reducible refine Bx.out ?_); k_dflt (refine' lenS ?a ?_; (case a => first | assumption | ((simp only [List.length_cons]); exact Nat.le_trans (Nat.add_le_add_right hl 5) (by decide)) | ((simp only [List.length_cons]); omega))); intro _ _; (try dsimp only)) | ((with_reducible show wpAny _ _ (binaryOp Operator.Add _ _) _ _ _); k_here; (with_reducible refine Bx.out ?_); k_dflt (refine' addS ?a1 ?a2 ?a3 ?_; (case a1 => with_reducible exact rfl); (case a2 => with_reducible exact rfl); (case a3 => first | assumption | ((simp only [List.length_append, List.length_cons, List.length_nil]); omega))); intro _ _; (try dsimp only)) | (k_here; (with_reducible show wpAny _ _ (subscriptTail _ _ (Value.str _ _) (Value.int _ _)) _ _ _); (with_reducible refine Bx.out ?_); k_dflt (refine' itemS ?hx ?h0 ?h1 ?hl ?_ ?hs ?ht; (case hx => with_reducible exact rfl); (case h0 => first | exact Int.natCast_nonneg _ | omega); (case h1 => first | assumption | omega); (case hl => first | assumption | omega); (case hs => with_unfolding_all rfl); (case ht => intro _; with_unfolding_all rfl)); intro _ _; (try dsimp only))); all_goals k_steps))
    (rename News _ _ _ _ => nE)
    (rename Fr _ _ _ _ => fE)
    exact ret _ _ _ fE nE
  case turn =>
    clear F1 N1 ret N
    rintro n m₁ led₁ h₁ tk₁ F₁ N₁ ⟨i, acc, ti, ta, tn, tr, rfl, hi, hres, hacc, rfl, hm1, hm2, hm3, hm4⟩
    have F2 := fr_map4 F₁ hm1 hm2 hm3 hm4
    clear F₁
    cases hdr : l.drop i with
    | nil =>
      have hie : (i : Int) = (l.length : Int) := by
        have := congrArg List.length hdr
        rw [List.length_drop, List.length_nil] at this
        exact congrArg (fun n : Nat => (n : Int)) (Nat.le_antisymm hi (Nat.le_of_sub_eq_zero this))
      rw [hdr] at hres
      have hres2 : p257 r = acc := by rw [hres]; simp [p257]
      (k_steps; repeat' (refine Stop9.inn ?_; (first | ((with_reducible show wpAny _ _ (call (Value.builtin "len") _ _) _ _ _); k_here; (try dsimp only [List.cons_append, List.nil_append]); (with_reducible refine Bx.out ?_); k_dflt (refine' lenS ?a ?_; (case a => first | assumption | ((simp only [List.length_cons]); exact Nat.le_trans (Nat.add_le_add_right hl 5) (by decide)) | ((simp only [List.length_cons]); omega))); intro _ _; (try dsimp only)) | ((with_reducible show wpAny _ _ (binaryOp Operator.Add _ _) _ _ _); k_here; (with_reducible refine Bx.out ?_); k_dflt (refine' addS ?a1 ?a2 ?a3 ?_; (case a1 => with_reducible exact rfl); (case a2 => with_reducible exact rfl); (case a3 => first | assumption | ((simp only [List.length_append, List.length_cons, List.length_nil]); omega))); intro _ _; (try dsimp only)) | (k_here; (with_reducible show wpAny _ _ (subscriptTail _ _ (Value.str _ _) (Value.int _ _)) _ _ _); (with_reducible refine Bx.out ?_); k_dflt (refine' itemS ?hx ?h0 ?h1 ?hl ?_ ?hs ?ht; (case hx => with_reducible exact rfl); (case h0 => first | exact Int.natCast_nonneg _ | omega); (case h1 => first | assumption | omega); (case hl => first | assumption | omega); (case hs => with_unfolding_all rfl); (case ht => intro _; with_unfolding_all rfl)); intro _ _; (try dsimp only))); all_goals k_steps))
      (rename News _ _ _ _ => nE)
      (rename Fr _ _ _ _ => fE)
      exact pp_mk fE nE hres2 rfl
    | cons c q =>
      have hlt : (i : Int) < (l.length : Int) := by
        have := congrArg List.length hdr
        rw [List.length_drop, List.length_cons] at this
        exact Int.ofNat_lt.mpr (Nat.sub_pos_iff_lt.mp (by rw [this]; exact Nat.succ_pos _))
      have hiN : i < l.length := Int.ofNat_lt.mp hlt
      have ha1 : acc.length + (0 + 1) ≤ 100000 := Nat.le_trans (Nat.succ_le_succ (Nat.le_trans hacc (Nat.le_trans hi hl5))) (by decide)
      have hget : l.getD i 0 = c := by
        have := congrArg List.head? hdr
        rw [List.head?_drop, List.head?_cons] at this
        rw [List.getD_eq_getElem?_getD, this]; rfl
      have hdr1 : l.drop (i + 1) = q := by
        have := congrArg List.tail hdr
        rw [List.tail_drop] at this
        exact this
      rw [hdr] at hres
      by_cases hc : c = 34
      · have y1 := eqq (c := l.getD ((i : Int)).toNat 0) (by rw [Int.toNat_natCast, hget]; exact hc)
        cases q with
        | nil =>
          have hres2 : p257 r = acc := by rw [hres]; simp [p257, hc]
          have hle : (l.length : Int) ≤ (i : Int) + 1 := by
            have := congrArg List.length hdr
            rw [List.length_drop, List.length_cons, List.length_nil] at this
            exact Int.ofNat_le.mpr (Nat.sub_le_iff_le_add'.mp (Nat.le_of_eq this))
          (k_steps; repeat' (refine Stop9.inn ?_; (first | ((with_reducible show wpAny _ _ (call (Value.builtin "len") _ _) _ _ _); k_here; (try dsimp only [List.cons_append, List.nil_append]); (with_reducible refine Bx.out ?_); k_dflt (refine' lenS ?a ?_; (case a => first | assumption | ((simp only [List.length_cons]); exact Nat.le_trans (Nat.add_le_add_right hl 5) (by decide)) | ((simp only [List.length_cons]); omega))); intro _ _; (try dsimp only)) | ((with_reducible show wpAny _ _ (binaryOp Operator.Add _ _) _ _ _); k_here; (with_reducible refine Bx.out ?_); k_dflt (refine' addS ?a1 ?a2 ?a3 ?_; (case a1 => with_reducible exact rfl); (case a2 => with_reducible exact rfl); (case a3 => first | assumption | ((simp only [List.length_append, List.length_cons, List.length_nil]); omega))); intro _ _; (try dsimp only)) | (k_here; (with_reducible show wpAny _ _ (subscriptTail _ _ (Value.str _ _) (Value.int _ _)) _ _ _); (with_reducible refine Bx.out ?_); k_dflt (refine' itemS ?hx ?h0 ?h1 ?hl ?_ ?hs ?ht; (case hx => with_reducible exact rfl); (case h0 => first | exact Int.natCast_nonneg _ | omega); (case h1 => first | assumption | omega); (case hl => first | assumption | omega); (case hs => with_unfolding_all rfl); (case ht => intro _; with_unfolding_all rfl)); intro _ _; (try dsimp only))); all_goals k_steps))
          (rename News _ _ _ _ => nE)
          (rename Fr _ _ _ _ => fE)
          exact pp_brk fE nE hres2 rfl
        | cons d q =>
          have hlt2 : (i : Int) + 1 < (l.length : Int) := by
            have := congrArg List.length hdr
            rw [List.length_drop, List.length_cons, List.length_cons] at this
            exact Int.ofNat_lt.mpr (Nat.add_lt_of_lt_sub' (by rw [this]; exact Nat.succ_lt_succ (Nat.succ_pos _)))
          have hget2 : l.getD (i + 1) 0 = d := by
            have := congrArg List.head? hdr1
            rw [List.head?_drop, List.head?_cons] at this
            rw [List.getD_eq_getElem?_getD, this]; rfl
          have hn2 : ((i : Int) + 1).toNat = i + 1 := rfl
          have hi2 : i + 2 ≤ l.length := Int.ofNat_lt.mp hlt2
          by_cases hd : d = 34
          · have y2 := eqq' (c := l.getD ((i : Int) + 1).toNat 0) (by rw [hn2, hget2]; exact hd)
            have hres2 : p257 r = acc ++ [l.getD ((i : Int)).toNat 0] ++ p257 (l.drop (i + 2)) := by
              have hdr2 : l.drop (i + 2) = q := by
                have := congrArg List.tail hdr1
                rw [List.tail_drop] at this
                exact this
              rw [hres, hdr2, Int.toNat_natCast, hget]; simp [p257, hc, hd]
            (k_steps; repeat' (refine Stop9.inn ?_; (first | ((with_reducible show wpAny _ _ (call (Value.builtin "len") _ _) _ _ _); k_here; (try dsimp only [List.cons_append, List.nil_append]); (with_reducible refine Bx.out ?_); k_dflt (refine' lenS ?a ?_; (case a => first | assumption | ((simp only [List.length_cons]); exact Nat.le_trans (Nat.add_le_add_right hl 5) (by decide)) | ((simp only [List.length_cons]); omega))); intro _ _; (try dsimp only)) | ((with_reducible show wpAny _ _ (binaryOp Operator.Add _ _) _ _ _); k_here; (with_reducible refine Bx.out ?_); k_dflt (refine' addS ?a1 ?a2 ?a3 ?_; (case a1 => with_reducible exact rfl); (case a2 => with_reducible exact rfl); (case a3 => first | assumption | ((simp only [List.length_append, List.length_cons, List.length_nil]); omega))); intro _ _; (try dsimp only)) | (k_here; (with_reducible show wpAny _ _ (subscriptTail _ _ (Value.str _ _) (Value.int _ _)) _ _ _); (with_reducible refine Bx.out ?_); k_dflt (refine' itemS ?hx ?h0 ?h1 ?hl ?_ ?hs ?ht; (case hx => with_reducible exact rfl); (case h0 => first | exact Int.natCast_nonneg _ | omega); (case h1 => first | assumption | omega); (case hl => first | assumption | omega); (case hs => with_unfolding_all rfl); (case ht => intro _; with_unfolding_all rfl)); intro _ _; (try dsimp only))); all_goals k_steps))
            (rename News _ _ _ _ => nE)
            (rename Fr _ _ _ _ => fE)
            first | exact leafN fE nE (Nat.sub_lt_sub_left hiN (Nat.lt_add_of_pos_right (by decide))) (pj_mk (i + 2) hi2 hres2 (Nat.le_succ_of_le (lenA hacc)) rfl rfl rfl rfl rfl) | exact leafC fE nE (Nat.sub_lt_sub_left hiN (Nat.lt_add_of_pos_right (by decide))) (pj_mk (i + 2) hi2 hres2 (Nat.le_succ_of_le (lenA hacc)) rfl rfl rfl rfl rfl)
          · have y2 := neq' (c := l.getD ((i : Int) + 1).toNat 0) (by rw [hn2, hget2]; exact hd)
            have hres2 : p257 r = acc := by rw [hres]; simp [p257, hc, hd]
            (k_steps; repeat' (refine Stop9.inn ?_; (first | ((with_reducible show wpAny _ _ (call (Value.builtin "len") _ _) _ _ _); k_here; (try dsimp only [List.cons_append, List.nil_append]); (with_reducible refine Bx.out ?_); k_dflt (refine' lenS ?a ?_; (case a => first | assumption | ((simp only [List.length_cons]); exact Nat.le_trans (Nat.add_le_add_right hl 5) (by decide)) | ((simp only [List.length_cons]); omega))); intro _ _; (try dsimp only)) | ((with_reducible show wpAny _ _ (binaryOp Operator.Add _ _) _ _ _); k_here; (with_reducible refine Bx.out ?_); k_dflt (refine' addS ?a1 ?a2 ?a3 ?_; (case a1 => with_reducible exact rfl); (case a2 => with_reducible exact rfl); (case a3 => first | assumption | ((simp only [List.length_append, List.length_cons, List.length_nil]); omega))); intro _ _; (try dsimp only)) | (k_here; (with_reducible show wpAny _ _ (subscriptTail _ _ (Value.str _ _) (Value.int _ _)) _ _ _); (with_reducible refine Bx.out ?_); k_dflt (refine' itemS ?hx ?h0 ?h1 ?hl ?_ ?hs ?ht; (case hx => with_reducible exact rfl); (case h0 => first | exact Int.natCast_nonneg _ | omega); (case h1 => first | assumption | omega); (case hl => first | assumption | omega); (case hs => with_unfolding_all rfl); (case ht => intro _; with_unfolding_all rfl)); intro _ _; (try dsimp only))); all_goals k_steps))
            (rename News _ _ _ _ => nE)
            (rename Fr _ _ _ _ => fE)
            exact pp_brk fE nE hres2 rfl
      · have y1 := neq (c := l.getD ((i : Int)).toNat 0) (by rw [Int.toNat_natCast, hget]; exact hc)
        have hres2 : p257 r = acc ++ [l.getD ((i : Int)).toNat 0] ++ p257 (l.drop (i + 1)) := by
          rw [hres, hdr1, Int.toNat_natCast, hget]
          cases q <;> simp [p257, hc]
        (k_steps; repeat' (refine Stop9.inn ?_; (first | ((with_reducible show wpAny _ _ (call (Value.builtin "len") _ _) _ _ _); k_here; (try dsimp only [List.cons_append, List.nil_append]); (with_reducible refine Bx.out ?_); k_dflt (refine' lenS ?a ?_; (case a => first | assumption | ((simp only [List.length_cons]); exact Nat.le_trans (Nat.add_le_add_right hl 5) (by decide)) | ((simp only [List.length_cons]); omega))); intro _ _; (try dsimp only)) | ((with_reducible show wpAny _ _ (binaryOp Operator.Add _ _) _ _ _); k_here; (with_reducible refine Bx.out ?_); k_dflt (refine' addS ?a1 ?a2 ?a3 ?_; (case a1 => with_reducible exact rfl); (case a2 => with_reducible exact rfl); (case a3 => first | assumption | ((simp only [List.length_append, List.length_cons, List.length_nil]); omega))); intro _ _; (try dsimp only)) | (k_here; (with_reducible show wpAny _ _ (subscriptTail _ _ (Value.str _ _) (Value.int _ _)) _ _ _); (with_reducible refine Bx.out ?_); k_dflt (refine' itemS ?hx ?h0 ?h1 ?hl ?_ ?hs ?ht; (case hx => with_reducible exact rfl); (case h0 => first | exact Int.natCast_nonneg _ | omega); (case h1 => first | assumption | omega); (case hl => first | assumption | omega); (case hs => with_unfolding_all rfl); (case ht => intro _; with_unfolding_all rfl)); intro _ _; (try dsimp only))); all_goals k_steps))
        (rename News _ _ _ _ => nE)
        (rename Fr _ _ _ _ => fE)
        first | exact leafN fE nE (Nat.sub_lt_sub_left hiN (Nat.lt_add_of_pos_right (by decide))) (pj_mk (i + 1) hiN hres2 (lenA hacc) rfl rfl rfl rfl rfl) | exact leafC fE nE (Nat.sub_lt_sub_left hiN (Nat.lt_add_of_pos_right (by decide))) (pj_mk (i + 1) hiN hres2 (lenA hacc) rfl rfl rfl rfl rfl)
end
end

section
section
variable {w : World} {pg : Program} {lz : List Str} {mean : ExcName → Option Value} {mg mb : Str → Option Value} {dp un : Nat} {gd : Option (List Code)} {cn : Str} {cs : Scope} {a : Addr} {ccd : Value} {cl : List (Str × Addr)} {outer : List Env} {A₀ : Around} {base h₀ : Heap} {L : Addr} {m : Str → Option Value} {s : Shared} {Q E : Value → Shared → Prop}

theorem parse229_ {news : List (Addr × Obj)} {as post : List Nat} {k : Nat} {n : Int} {t th tp : Tok} {pa : Addr} {c : Nat}
   (B : Below A₀ base outer h₀) (F : Fr h₀ L s.heap m) (X : (KY w.params).In h₀) (T : Top pg lz mean mg mb h₀) (hk : cs.kind = .function)
   (hdp : dp + 50 ≤ 700) (hun : un + 300 ≤ 4000) (N : News h₀ L s.heap ((pa, { cls := .type "tuple", data := .seq #[.str (Str.ofString "here") th, .int 21 tp] c }) :: news))
   (h1 : 40 ∉ as) (h2 : k ≠ 41) (h3 : 41 ∉ dig n) (hn0 : 0 ≤ n) (hn1 : n < 10 ^ 10) (hla : as.length ≤ 10) (hlp : post.length ≤ 10) (hld : (dig n).length ≤ 10)
   (hsp : Txt.split (mkS (k :: k :: k :: (dig n ++ [k]))) (mkS [k]) = [mkS [], mkS [], mkS [], mkS (dig n), mkS []])
   (ret : ∀ (T D : Nat) (h' : Heap) (tk' : Nat) (o : Obj) (t1 t2 : Tok), Fr h₀ L h' m → News h₀ L h' ((T, { cls := .type "tuple", data := .seq #[.str (Str.ofString "here") t1, .int n t2] }) :: (D, o) :: (pa, { cls := .type "tuple", data := .seq #[.str (Str.ofString "here") th, .int 21 tp] c }) :: news) → (∀ q ∈ news, q.1 < T) → (∀ q ∈ news, q.1 < D) → Q (.ref T) { s with heap := h', toks := tk' }) :
   wpAny (model PySem.Challenge.rw_nq0264_01.prog w) (ktrTop dp un gd cn cs L a ccd cl outer) (call (.ref 88) [.str (mkS (50 :: 50 :: 57 :: 32 :: (as ++ 40 :: (k :: k :: k :: (dig n ++ k :: 41 :: post))))) t, .ref pa]) Q E s := by
  have st0 : ∀ M A as ks Q E s, Nonempty (StopP (wpAny M A (call (Value.builtin "str.find") as ks) Q E s)) := by intros; exact StopP.mk
  have st1 : ∀ M A as ks Q E s, Nonempty (StopP (wpAny M A (call (Value.builtin "str.split") as ks) Q E s)) := by intros; exact StopP.mk
  have st2 : ∀ M A as ks Q E s, Nonempty (StopP (wpAny M A (call (Value.type "int") as ks) Q E s)) := by intros; exact StopP.mk
  have st3 : ∀ M A x p y o z q a t i u Q E s, Nonempty (StopP (wpAny M A (subscriptTail (Expr.Name x p) (Expr.BinOp y o z q) (Value.str a t) (Value.int i u)) Q E s)) := by intros; exact StopP.mk
  w_on
  refine wpAny_call ?_
  k_dflt cell_enter
  have x1 : (Txt.slice (mkS (50 :: 50 :: 57 :: 32 :: (as ++ 40 :: (k :: k :: k :: (dig n ++ k :: 41 :: post))))) none (some 3) != Str.ofString "229") = false := by rw [q229a, l229]; decide
  have n1 : (50 :: 50 :: 57 :: 32 :: (as ++ [40])).length = 4 + as.length + 1 := by show (as ++ [40]).length + 4 = _; rw [List.length_append, Nat.add_comm 4]; rfl
  have n2 : (50 :: 50 :: 57 :: 32 :: (as ++ [40])).length + (k :: k :: k :: (dig n ++ [k])).length = as.length + (dig n).length + 9 := by show (as ++ [40]).length + 4 + ((dig n ++ [k]).length + 3) = _; rw [List.length_append, List.length_append]; exact a5 _ _
  have x2 : Txt.find (mkS (50 :: 50 :: 57 :: 32 :: (as ++ 40 :: (k :: k :: k :: (dig n ++ k :: 41 :: post))))) (Str.ofString "(") = ((4 + as.length : Nat) : Int) := by
    have := find_at (l := 50 :: 50 :: 57 :: 32 :: (as ++ 40 :: (k :: k :: k :: (dig n ++ k :: 41 :: post)))) (pre := 50 :: 50 :: 57 :: 32 :: as) (post := k :: k :: k :: (dig n ++ k :: 41 :: post)) (c := 40) (by simp) (by simp [h1])
    rw [lpo, this]
    exact congrArg (fun n : Nat => (n : Int)) (Nat.add_comm as.length 4)
  have x3 : Txt.find3 (mkS (50 :: 50 :: 57 :: 32 :: (as ++ 40 :: (k :: k :: k :: (dig n ++ k :: 41 :: post))))) (Str.ofString ")") (((4 + as.length : Nat) : Int) + 1) = ((as.length + (dig n).length + 9 : Nat) : Int) := by
    have := find3_at (l := 50 :: 50 :: 57 :: 32 :: (as ++ 40 :: (k :: k :: k :: (dig n ++ k :: 41 :: post)))) (pre := 50 :: 50 :: 57 :: 32 :: (as ++ [40])) (mid := k :: k :: k :: (dig n ++ [k])) (post := post) (c := 41) (by simp) (by simp [h3, Ne.symm h2])
    rw [lpc]
    have e1 : (((50 :: 50 :: 57 :: 32 :: (as ++ [40])).length : Nat) : Int) = ((4 + as.length : Nat) : Int) + 1 := congrArg (fun n : Nat => (n : Int)) n1
    rw [e1] at this
    rw [this, n2]
  generalize hL : 50 :: 50 :: 57 :: 32 :: (as ++ 40 :: (k :: k :: k :: (dig n ++ k :: 41 :: post))) = l at *
  have hlen : l.length = as.length + (dig n).length + post.length + 10 := by
    rw [← hL]
    show (as ++ 40 :: (k :: k :: k :: (dig n ++ k :: 41 :: post))).length + 4 = _
    rw [List.length_append]
    show as.length + ((dig n ++ k :: 41 :: post).length + 3 + 1) + 4 = _
    rw [List.length_append]
    exact a6 _ _ _
  have i1 : (0 : Int) ≤ ((4 + as.length : Nat) : Int) + 1 := Int.natCast_nonneg (4 + as.length + 1)
  have i2 : ((4 + as.length : Nat) : Int) + 1 < (l.length : Int) := by rw [hlen]; exact Int.ofNat_lt.mpr (a8 _ _ _)
  have i3 : (0 : Int) ≤ ((as.length + (dig n).length + 9 : Nat) : Int) - 1 := by rw [i9]; exact Int.natCast_nonneg _
  have i4 : ((as.length + (dig n).length + 9 : Nat) : Int) - 1 < (l.length : Int) := by rw [i9, hlen]; exact Int.ofNat_lt.mpr (a10 _ _ _)
  have i5 : l.length ≤ 100000 := by rw [hlen]; exact a9 hla hld hlp
  have g1 : l.getD ((((4 + as.length : Nat) : Int) + 1)).toNat 0 = k := by
    rw [show ((((4 + as.length : Nat) : Int) + 1)).toNat = as.length + 5 by show 4 + as.length + 1 = _; rw [Nat.add_comm 4], ← hL]
    have := getD_mid (50 :: 50 :: 57 :: 32 :: (as ++ [40])) (k :: k :: (dig n ++ k :: 41 :: post)) k
    rw [show (50 :: 50 :: 57 :: 32 :: (as ++ [40])).length = as.length + 5 by simp] at this
    simpa using this
  have g2 : l.getD ((((as.length + (dig n).length + 9 : Nat) : Int) - 1)).toNat 0 = k := by
    rw [show ((((as.length + (dig n).length + 9 : Nat) : Int) - 1)).toNat = as.length + (dig n).length + 8 by rw [i9]; rfl, ← hL]
    have := getD_mid (50 :: 50 :: 57 :: 32 :: (as ++ 40 :: k :: k :: k :: dig n)) (41 :: post) k
    rw [show (50 :: 50 :: 57 :: 32 :: (as ++ 40 :: k :: k :: k :: dig n)).length = as.length + (dig n).length + 8 by show (as ++ 40 :: k :: k :: k :: dig n).length + 4 = _; rw [List.length_append]; exact a7 _ _] at this
    simpa using this
  have sl : Txt.slice (mkS l) (some (((4 + as.length : Nat) : Int) + 1)) (some ((as.length + (dig n).length + 9 : Nat) : Int)) = mkS (k :: k :: k :: (dig n ++ [k])) :=
    slice_mid (pre := 50 :: 50 :: 57 :: 32 :: (as ++ [40])) (mid := k :: k :: k :: (dig n ++ [k])) (post := 41 :: post) (by rw [← hL]; simp) (congrArg (fun n : Nat => (n : Int)) n1).symm (congrArg (fun n : Nat => (n : Int)) n2).symm
  have x4 : (mkS [l.getD ((((4 + as.length : Nat) : Int) + 1)).toNat 0] != mkS [l.getD ((((as.length + (dig n).length + 9 : Nat) : Int) - 1)).toNat 0]) = false := by rw [g1, g2]; simp
  have x5 : Txt.split (Txt.slice (mkS l) (some (((4 + as.length : Nat) : Int) + 1)) (some ((as.length + (dig n).length + 9 : Nat) : Int))) (mkS [l.getD ((((4 + as.length : Nat) : Int) + 1)).toNat 0]) = [mkS [], mkS [], mkS [], mkS (dig n), mkS []] := by
    rw [g1, ← hsp, sl]
  have x6 : (Txt.slice (mkS l) (some (((4 + as.length : Nat) : Int) + 1)) (some ((as.length + (dig n).length + 9 : Nat) : Int))).length ≤ 1000 := by
    rw [sl]; show (dig n ++ [k]).length + 3 ≤ 1000; rw [List.length_append]; exact Nat.le_trans (Nat.add_le_add_right (Nat.add_le_add_right hld 1) 3) (by decide)
  (k_steps; repeat' (refine Stop9.inn ?_; (first | ((with_reducible show wpAny _ _ (call (Value.builtin "str.find") _ _) _ _ _); k_here; (try dsimp only [List.cons_append, List.nil_append]); (with_reducible refine Bx.out ?_); k_dflt (first | (refine' findE ?e ?_; (case e => assumption)) | (refine' find3E ?e ?_; (case e => assumption))); intro _ _; (try dsimp only)) | ((with_reducible show wpAny _ _ (call (Value.builtin "str.split") _ _) _ _ _); k_here; (try dsimp only [List.cons_append, List.nil_append]); k_dflt (refine' splitE ?F ?N ?e ?y ?x ?_; (case F => k_asm); (case N => k_asm); (case e => assumption); (case y => exact rfl); (case x => assumption); k_whole; intro _ _ _ _ _ _ _ _ _ _ _); (try dsimp only)) | ((with_reducible show wpAny _ _ (call (Value.type "int") _ _) _ _ _); k_here; (try dsimp only [List.cons_append, List.nil_append]); k_dflt (refine' KIN.call_num (n := ?n) ?a ?b ?_; (case a => assumption); (case b => assumption)); (try dsimp only)) | (k_here; (with_reducible show wpAny _ _ (subscriptTail _ _ (Value.str _ _) (Value.int _ _)) _ _ _); (with_reducible refine Bx.out ?_); k_dflt (refine' itemS ?hx ?h0 ?h1 ?hl ?_ ?hs ?ht; (case hx => with_reducible exact rfl); (case h0 => first | assumption | omega); (case h1 => first | assumption | omega); (case hl => first | assumption | omega); (case hs => with_unfolding_all rfl); (case ht => intro _; with_unfolding_all rfl)); intro _ _; (try dsimp only))); all_goals k_steps))
  (rename News _ _ _ _ => nE)
  (rename Fr _ _ _ _ => fE)
  (rename _ ∧ _ ∧ AllLt _ _ => q1)
  (rename ∀ q ∈ (pa, _) :: news, _ < _ => q9)
  exact ret _ _ _ _ _ _ _ fE nE (fun q hq => kst_ltOf q1.2.2 q hq) (fun q hq => q9 q (.tail _ hq))
end
end

section
section
variable {w : World} {pg : Program} {lz : List Str} {mean : ExcName → Option Value} {mg mb : Str → Option Value} {dp un : Nat} {gd : Option (List Code)} {cn : Str} {cs : Scope} {a : Addr} {ccd : Value} {cl : List (Str × Addr)} {outer : List Env} {A₀ : Around} {base h₀ : Heap} {L : Addr} {m : Str → Option Value} {s : Shared} {Q E : Value → Shared → Prop}

theorem sd10 {bs : List (Addr × Obj)} {hp : Nat} {c : Nat} {e0 : Itm3} {tk0 tk1 : Tok}
   (B : Below A₀ base outer h₀) (F : Fr h₀ L s.heap m) (X : (KY w.params).In h₀) (T : Top pg lz mean mg mb h₀) (hk : cs.kind = .function)
   (hdp : dp + 20 ≤ 700) (hun : un + 100 ≤ 4000) (N : News h₀ L s.heap ((hp, listOf (vals [e0]) c) :: bs)) (hne : ∀ p ∈ bs, p.1 ≠ hp) (h0 : Has3 bs e0)
   (ret : ∀ (h' : Heap) (tk' c' : Nat), Fr h₀ L h' m → News h₀ L h' ((hp, listOf (vals [e0]) c') :: bs) → Q .none { s with heap := h', toks := tk' }) :
   wpAny (model PySem.Challenge.rw_nq0264_01.prog w) (ktrTop dp un gd cn cs L a ccd cl outer) (call (.ref 116) [.ref hp, .int 0 tk0, .int 0 tk1]) Q E s := by
  have st0 : ∀ M A a b Q E s, Nonempty (StopP (wpAny M A (compareOp CmpOp.Lt (Value.ref a) (Value.ref b)) Q E s)) := by intros; exact StopP.mk
  have st1 : ∀ M A a z Q E s, Nonempty (StopP (wpAny M A (getMethod (Value.ref a) (PySem.Str.ofString "append") z) Q E s)) := by intros; exact StopP.mk
  have st2 : ∀ M A as ks Q E s, Nonempty (StopP (wpAny M A (call (Value.builtin "list.append") as ks) Q E s)) := by intros; exact StopP.mk
  have st3 : ∀ M A a Q E s, Nonempty (StopP (wpAny M A (PySem.truthy (Value.ref a)) Q E s)) := by intros; exact StopP.mk
  w_on
  obtain ⟨ve0, pe0, ne0⟩ := e0
  obtain ⟨a0, t0, u0, w0, c0, rfl, m0⟩ := h0
  dsimp only at m0
  have k0 := hne _ m0
  dsimp only at k0
  have N2 := news_sub' (l' := (a0, t3o pe0 t0 ne0 u0 hereS w0 c0) :: (hp, listOf #[.ref a0] c) :: bs) N (mem_put (.tail _ m0) (fun p hp => hp))
  clear N
  refine wpAny_call ?_
  k_dflt cell_enter
  (k_steps; repeat' (refine Stop9.inn ?_; (first | ((with_reducible show wpAny _ _ (compareOp CmpOp.Lt _ _) _ _ _); k_here; k_dflt (refine' lt3N ?N ?a ?b ?u ?_; (case N => k_asm); (case a => k_mem); (case b => k_mem); (case u => first | ktr_units | k_units); k_whole); (try dsimp only)) | (k_here; (with_reducible show wpAny _ _ (getMethod (Value.ref _) (PySem.Str.ofString "append") _) _ _ _); k_dflt (refine' listMethod_K ?N ?m PySem.F.slot_list_append PySem.F.type_list_append ?_; (case N => k_asm); (case m => k_mem))) | (k_here; (try dsimp only [List.cons_append, List.nil_append]); (with_reducible show wpAny _ _ (call (Value.builtin _) [Value.ref _, _]) _ _ _); k_dflt (refine' append_K ?k1 ?k2 ?k3 ?_ ?z; (case k1 => k_asm); (case k2 => k_asm); (case k3 => k_upd); (case z => ((simp only [List.size_toArray, Array.size_push, List.length_append, List.length_cons, List.length_nil, sizeLine_eq]); omega)); k_whole); intro _ _ N'; (simp only [List.push_toArray, List.cons_append, List.nil_append] at N')) | (k_here; k_dflt (refine' truthyL ?N ?m ?f ?e ?_; (case N => k_asm); (case m => k_mem); (case f => exact Nat.le_of_ble_eq_true rfl); (case e => first | exact (rfl : _ = true) | exact (rfl : _ = false))); intro _; (try dsimp only))); all_goals k_steps))
  all_goals ((rename News _ _ _ _ => nE); (rename Fr _ _ _ _ => fE); exact ret _ _ _ fE (by exact news_sub' nE (fun p hp => .tail _ (hp))))
theorem sd21 {bs : List (Addr × Obj)} {hp : Nat} {c : Nat} {e0 e1 : Itm3} {tk0 tk1 : Tok}
   (B : Below A₀ base outer h₀) (F : Fr h₀ L s.heap m) (X : (KY w.params).In h₀) (T : Top pg lz mean mg mb h₀) (hk : cs.kind = .function)
   (hdp : dp + 20 ≤ 700) (hun : un + 100 ≤ 4000) (N : News h₀ L s.heap ((hp, listOf (vals [e0, e1]) c) :: bs)) (hne : ∀ p ∈ bs, p.1 ≠ hp) (h0 : Has3 bs e0) (h1 : Has3 bs e1)
   (ret : ∀ (h' : Heap) (tk' c' : Nat), Fr h₀ L h' m → News h₀ L h' ((hp, listOf (vals (if lt3 e1 e0 = true then [e1, e0] else [e0, e1])) c') :: bs) → Q .none { s with heap := h', toks := tk' }) :
   wpAny (model PySem.Challenge.rw_nq0264_01.prog w) (ktrTop dp un gd cn cs L a ccd cl outer) (call (.ref 116) [.ref hp, .int 0 tk0, .int 1 tk1]) Q E s := by
  have st0 : ∀ M A a b Q E s, Nonempty (StopP (wpAny M A (compareOp CmpOp.Lt (Value.ref a) (Value.ref b)) Q E s)) := by intros; exact StopP.mk
  have st1 : ∀ M A a z Q E s, Nonempty (StopP (wpAny M A (getMethod (Value.ref a) (PySem.Str.ofString "append") z) Q E s)) := by intros; exact StopP.mk
  have st2 : ∀ M A as ks Q E s, Nonempty (StopP (wpAny M A (call (Value.builtin "list.append") as ks) Q E s)) := by intros; exact StopP.mk
  have st3 : ∀ M A a Q E s, Nonempty (StopP (wpAny M A (PySem.truthy (Value.ref a)) Q E s)) := by intros; exact StopP.mk
  w_on
  obtain ⟨ve0, pe0, ne0⟩ := e0
  obtain ⟨ve1, pe1, ne1⟩ := e1
  obtain ⟨a0, t0, u0, w0, c0, rfl, m0⟩ := h0
  obtain ⟨a1, t1, u1, w1, c1, rfl, m1⟩ := h1
  dsimp only at m0 m1
  have k0 := hne _ m0
  have k1 := hne _ m1
  dsimp only at k0 k1
  have N2 := news_sub' (l' := (a0, t3o pe0 t0 ne0 u0 hereS w0 c0) :: (a1, t3o pe1 t1 ne1 u1 hereS w1 c1) :: (hp, listOf #[.ref a0, .ref a1] c) :: bs) N (mem_put (.tail _ m0) (mem_put (.tail _ m1) (fun p hp => hp)))
  clear N
  refine wpAny_call ?_
  k_dflt cell_enter
  (k_steps; repeat' (refine Stop9.inn ?_; (first | ((with_reducible show wpAny _ _ (compareOp CmpOp.Lt _ _) _ _ _); k_here; k_dflt (refine' lt3N ?N ?a ?b ?u ?_; (case N => k_asm); (case a => k_mem); (case b => k_mem); (case u => first | ktr_units | k_units); k_whole); (try dsimp only)) | (k_here; (with_reducible show wpAny _ _ (getMethod (Value.ref _) (PySem.Str.ofString "append") _) _ _ _); k_dflt (refine' listMethod_K ?N ?m PySem.F.slot_list_append PySem.F.type_list_append ?_; (case N => k_asm); (case m => k_mem))) | (k_here; (try dsimp only [List.cons_append, List.nil_append]); (with_reducible show wpAny _ _ (call (Value.builtin _) [Value.ref _, _]) _ _ _); k_dflt (refine' append_K ?k1 ?k2 ?k3 ?_ ?z; (case k1 => k_asm); (case k2 => k_asm); (case k3 => k_upd); (case z => ((simp only [List.size_toArray, Array.size_push, List.length_append, List.length_cons, List.length_nil, sizeLine_eq]); omega)); k_whole); intro _ _ N'; (simp only [List.push_toArray, List.cons_append, List.nil_append] at N')) | (k_here; k_dflt (refine' truthyL ?N ?m ?f ?e ?_; (case N => k_asm); (case m => k_mem); (case f => exact Nat.le_of_ble_eq_true rfl); (case e => first | exact (rfl : _ = true) | exact (rfl : _ = false))); intro _; (try dsimp only))); all_goals k_steps))
  all_goals ((rename News _ _ _ _ => nE); (rename Fr _ _ _ _ => fE); exact ret _ _ _ fE (by (try first | rw [if_pos (show lt3 (.ref a1, pe1, ne1) (.ref a0, pe0, ne0) = true from ‹ltK pe1 ne1 pe0 ne0 = true›)] | rw [if_neg (show ¬ lt3 (.ref a1, pe1, ne1) (.ref a0, pe0, ne0) = true from (by show ¬ ltK pe1 ne1 pe0 ne0 = true; rw [‹ltK pe1 ne1 pe0 ne0 = false›]; decide))]); exact news_sub' nE (fun p hp => .tail _ (.tail _ (hp)))))
theorem sd31 {bs : List (Addr × Obj)} {hp : Nat} {c : Nat} {e0 e1 e2 : Itm3} {tk0 tk1 : Tok}
   (B : Below A₀ base outer h₀) (F : Fr h₀ L s.heap m) (X : (KY w.params).In h₀) (T : Top pg lz mean mg mb h₀) (hk : cs.kind = .function)
   (hdp : dp + 20 ≤ 700) (hun : un + 100 ≤ 4000) (N : News h₀ L s.heap ((hp, listOf (vals [e0, e1, e2]) c) :: bs)) (hne : ∀ p ∈ bs, p.1 ≠ hp) (h0 : Has3 bs e0) (h1 : Has3 bs e1) (h2 : Has3 bs e2)
   (ret : ∀ (h' : Heap) (tk' c' : Nat), Fr h₀ L h' m → News h₀ L h' ((hp, listOf (vals (if lt3 e1 e0 = true then [e1, e0, e2] else [e0, e1, e2])) c') :: bs) → Q .none { s with heap := h', toks := tk' }) :
   wpAny (model PySem.Challenge.rw_nq0264_01.prog w) (ktrTop dp un gd cn cs L a ccd cl outer) (call (.ref 116) [.ref hp, .int 0 tk0, .int 1 tk1]) Q E s := by
  have st0 : ∀ M A a b Q E s, Nonempty (StopP (wpAny M A (compareOp CmpOp.Lt (Value.ref a) (Value.ref b)) Q E s)) := by intros; exact StopP.mk
  have st1 : ∀ M A a z Q E s, Nonempty (StopP (wpAny M A (getMethod (Value.ref a) (PySem.Str.ofString "append") z) Q E s)) := by intros; exact StopP.mk
  have st2 : ∀ M A as ks Q E s, Nonempty (StopP (wpAny M A (call (Value.builtin "list.append") as ks) Q E s)) := by intros; exact StopP.mk
  have st3 : ∀ M A a Q E s, Nonempty (StopP (wpAny M A (PySem.truthy (Value.ref a)) Q E s)) := by intros; exact StopP.mk
  w_on
  obtain ⟨ve0, pe0, ne0⟩ := e0
  obtain ⟨ve1, pe1, ne1⟩ := e1
  obtain ⟨ve2, pe2, ne2⟩ := e2
  obtain ⟨a0, t0, u0, w0, c0, rfl, m0⟩ := h0
  obtain ⟨a1, t1, u1, w1, c1, rfl, m1⟩ := h1
  obtain ⟨a2, t2, u2, w2, c2, rfl, m2⟩ := h2
  dsimp only at m0 m1 m2
  have k0 := hne _ m0
  have k1 := hne _ m1
  have k2 := hne _ m2
  dsimp only at k0 k1 k2
  have N2 := news_sub' (l' := (a0, t3o pe0 t0 ne0 u0 hereS w0 c0) :: (a1, t3o pe1 t1 ne1 u1 hereS w1 c1) :: (a2, t3o pe2 t2 ne2 u2 hereS w2 c2) :: (hp, listOf #[.ref a0, .ref a1, .ref a2] c) :: bs) N (mem_put (.tail _ m0) (mem_put (.tail _ m1) (mem_put (.tail _ m2) (fun p hp => hp))))
  clear N
  refine wpAny_call ?_
  k_dflt cell_enter
  (k_steps; repeat' (refine Stop9.inn ?_; (first | ((with_reducible show wpAny _ _ (compareOp CmpOp.Lt _ _) _ _ _); k_here; k_dflt (refine' lt3N ?N ?a ?b ?u ?_; (case N => k_asm); (case a => k_mem); (case b => k_mem); (case u => first | ktr_units | k_units); k_whole); (try dsimp only)) | (k_here; (with_reducible show wpAny _ _ (getMethod (Value.ref _) (PySem.Str.ofString "append") _) _ _ _); k_dflt (refine' listMethod_K ?N ?m PySem.F.slot_list_append PySem.F.type_list_append ?_; (case N => k_asm); (case m => k_mem))) | (k_here; (try dsimp only [List.cons_append, List.nil_append]); (with_reducible show wpAny _ _ (call (Value.builtin _) [Value.ref _, _]) _ _ _); k_dflt (refine' append_K ?k1 ?k2 ?k3 ?_ ?z; (case k1 => k_asm); (case k2 => k_asm); (case k3 => k_upd); (case z => ((simp only [List.size_toArray, Array.size_push, List.length_append, List.length_cons, List.length_nil, sizeLine_eq]); omega)); k_whole); intro _ _ N'; (simp only [List.push_toArray, List.cons_append, List.nil_append] at N')) | (k_here; k_dflt (refine' truthyL ?N ?m ?f ?e ?_; (case N => k_asm); (case m => k_mem); (case f => exact Nat.le_of_ble_eq_true rfl); (case e => first | exact (rfl : _ = true) | exact (rfl : _ = false))); intro _; (try dsimp only))); all_goals k_steps))
  all_goals ((rename News _ _ _ _ => nE); (rename Fr _ _ _ _ => fE); exact ret _ _ _ fE (by (try first | rw [if_pos (show lt3 (.ref a1, pe1, ne1) (.ref a0, pe0, ne0) = true from ‹ltK pe1 ne1 pe0 ne0 = true›)] | rw [if_neg (show ¬ lt3 (.ref a1, pe1, ne1) (.ref a0, pe0, ne0) = true from (by show ¬ ltK pe1 ne1 pe0 ne0 = true; rw [‹ltK pe1 ne1 pe0 ne0 = false›]; decide))]); exact news_sub' nE (fun p hp => .tail _ (.tail _ (.tail _ (hp))))))
theorem sd32 {bs : List (Addr × Obj)} {hp : Nat} {c : Nat} {e0 e1 e2 : Itm3} {tk0 tk1 : Tok}
   (B : Below A₀ base outer h₀) (F : Fr h₀ L s.heap m) (X : (KY w.params).In h₀) (T : Top pg lz mean mg mb h₀) (hk : cs.kind = .function)
   (hdp : dp + 20 ≤ 700) (hun : un + 100 ≤ 4000) (N : News h₀ L s.heap ((hp, listOf (vals [e0, e1, e2]) c) :: bs)) (hne : ∀ p ∈ bs, p.1 ≠ hp) (h0 : Has3 bs e0) (h1 : Has3 bs e1) (h2 : Has3 bs e2)
   (ret : ∀ (h' : Heap) (tk' c' : Nat), Fr h₀ L h' m → News h₀ L h' ((hp, listOf (vals (if lt3 e2 e0 = true then [e2, e1, e0] else [e0, e1, e2])) c') :: bs) → Q .none { s with heap := h', toks := tk' }) :
   wpAny (model PySem.Challenge.rw_nq0264_01.prog w) (ktrTop dp un gd cn cs L a ccd cl outer) (call (.ref 116) [.ref hp, .int 0 tk0, .int 2 tk1]) Q E s := by
  have st0 : ∀ M A a b Q E s, Nonempty (StopP (wpAny M A (compareOp CmpOp.Lt (Value.ref a) (Value.ref b)) Q E s)) := by intros; exact StopP.mk
  have st1 : ∀ M A a z Q E s, Nonempty (StopP (wpAny M A (getMethod (Value.ref a) (PySem.Str.ofString "append") z) Q E s)) := by intros; exact StopP.mk
  have st2 : ∀ M A as ks Q E s, Nonempty (StopP (wpAny M A (call (Value.builtin "list.append") as ks) Q E s)) := by intros; exact StopP.mk
  have st3 : ∀ M A a Q E s, Nonempty (StopP (wpAny M A (PySem.truthy (Value.ref a)) Q E s)) := by intros; exact StopP.mk
  w_on
  obtain ⟨ve0, pe0, ne0⟩ := e0
  obtain ⟨ve1, pe1, ne1⟩ := e1
  obtain ⟨ve2, pe2, ne2⟩ := e2
  obtain ⟨a0, t0, u0, w0, c0, rfl, m0⟩ := h0
  obtain ⟨a1, t1, u1, w1, c1, rfl, m1⟩ := h1
  obtain ⟨a2, t2, u2, w2, c2, rfl, m2⟩ := h2
  dsimp only at m0 m1 m2
  have k0 := hne _ m0
  have k1 := hne _ m1
  have k2 := hne _ m2
  dsimp only at k0 k1 k2
  have N2 := news_sub' (l' := (a0, t3o pe0 t0 ne0 u0 hereS w0 c0) :: (a1, t3o pe1 t1 ne1 u1 hereS w1 c1) :: (a2, t3o pe2 t2 ne2 u2 hereS w2 c2) :: (hp, listOf #[.ref a0, .ref a1, .ref a2] c) :: bs) N (mem_put (.tail _ m0) (mem_put (.tail _ m1) (mem_put (.tail _ m2) (fun p hp => hp))))
  clear N
  refine wpAny_call ?_
  k_dflt cell_enter
  (k_steps; repeat' (refine Stop9.inn ?_; (first | ((with_reducible show wpAny _ _ (compareOp CmpOp.Lt _ _) _ _ _); k_here; k_dflt (refine' lt3N ?N ?a ?b ?u ?_; (case N => k_asm); (case a => k_mem); (case b => k_mem); (case u => first | ktr_units | k_units); k_whole); (try dsimp only)) | (k_here; (with_reducible show wpAny _ _ (getMethod (Value.ref _) (PySem.Str.ofString "append") _) _ _ _); k_dflt (refine' listMethod_K ?N ?m PySem.F.slot_list_append PySem.F.type_list_append ?_; (case N => k_asm); (case m => k_mem))) | (k_here; (try dsimp only [List.cons_append, List.nil_append]); (with_reducible show wpAny _ _ (call (Value.builtin _) [Value.ref _, _]) _ _ _); k_dflt (refine' append_K ?k1 ?k2 ?k3 ?_ ?z; (case k1 => k_asm); (case k2 => k_asm); (case k3 => k_upd); (case z => ((simp only [List.size_toArray, Array.size_push, List.length_append, List.length_cons, List.length_nil, sizeLine_eq]); omega)); k_whole); intro _ _ N'; (simp only [List.push_toArray, List.cons_append, List.nil_append] at N')) | (k_here; k_dflt (refine' truthyL ?N ?m ?f ?e ?_; (case N => k_asm); (case m => k_mem); (case f => exact Nat.le_of_ble_eq_true rfl); (case e => first | exact (rfl : _ = true) | exact (rfl : _ = false))); intro _; (try dsimp only))); all_goals k_steps))
  all_goals ((rename News _ _ _ _ => nE); (rename Fr _ _ _ _ => fE); exact ret _ _ _ fE (by (try first | rw [if_pos (show lt3 (.ref a2, pe2, ne2) (.ref a0, pe0, ne0) = true from ‹ltK pe2 ne2 pe0 ne0 = true›)] | rw [if_neg (show ¬ lt3 (.ref a2, pe2, ne2) (.ref a0, pe0, ne0) = true from (by show ¬ ltK pe2 ne2 pe0 ne0 = true; rw [‹ltK pe2 ne2 pe0 ne0 = false›]; decide))]); exact news_sub' nE (fun p hp => .tail _ (.tail _ (.tail _ (hp))))))
theorem sd43 {bs : List (Addr × Obj)} {hp : Nat} {c : Nat} {e0 e1 e2 e3 : Itm3} {tk0 tk1 : Tok}
   (B : Below A₀ base outer h₀) (F : Fr h₀ L s.heap m) (X : (KY w.params).In h₀) (T : Top pg lz mean mg mb h₀) (hk : cs.kind = .function)
   (hdp : dp + 20 ≤ 700) (hun : un + 100 ≤ 4000) (N : News h₀ L s.heap ((hp, listOf (vals [e0, e1, e2, e3]) c) :: bs)) (hne : ∀ p ∈ bs, p.1 ≠ hp) (h0 : Has3 bs e0) (h1 : Has3 bs e1) (h2 : Has3 bs e2) (h3 : Has3 bs e3)
   (ret : ∀ (h' : Heap) (tk' c' : Nat), Fr h₀ L h' m → News h₀ L h' ((hp, listOf (vals (if lt3 e3 e1 = true then (if lt3 e3 e0 = true then [e3, e0, e2, e1] else [e0, e3, e2, e1]) else [e0, e1, e2, e3])) c') :: bs) → Q .none { s with heap := h', toks := tk' }) :
   wpAny (model PySem.Challenge.rw_nq0264_01.prog w) (ktrTop dp un gd cn cs L a ccd cl outer) (call (.ref 116) [.ref hp, .int 0 tk0, .int 3 tk1]) Q E s := by
  have st0 : ∀ M A a b Q E s, Nonempty (StopP (wpAny M A (compareOp CmpOp.Lt (Value.ref a) (Value.ref b)) Q E s)) := by intros; exact StopP.mk
  have st1 : ∀ M A a z Q E s, Nonempty (StopP (wpAny M A (getMethod (Value.ref a) (PySem.Str.ofString "append") z) Q E s)) := by intros; exact StopP.mk
  have st2 : ∀ M A as ks Q E s, Nonempty (StopP (wpAny M A (call (Value.builtin "list.append") as ks) Q E s)) := by intros; exact StopP.mk
  have st3 : ∀ M A a Q E s, Nonempty (StopP (wpAny M A (PySem.truthy (Value.ref a)) Q E s)) := by intros; exact StopP.mk
  w_on
  obtain ⟨ve0, pe0, ne0⟩ := e0
  obtain ⟨ve1, pe1, ne1⟩ := e1
  obtain ⟨ve2, pe2, ne2⟩ := e2
  obtain ⟨ve3, pe3, ne3⟩ := e3
  obtain ⟨a0, t0, u0, w0, c0, rfl, m0⟩ := h0
  obtain ⟨a1, t1, u1, w1, c1, rfl, m1⟩ := h1
  obtain ⟨a2, t2, u2, w2, c2, rfl, m2⟩ := h2
  obtain ⟨a3, t3, u3, w3, c3, rfl, m3⟩ := h3
  dsimp only at m0 m1 m2 m3
  have k0 := hne _ m0
  have k1 := hne _ m1
  have k2 := hne _ m2
  have k3 := hne _ m3
  dsimp only at k0 k1 k2 k3
  have N2 := news_sub' (l' := (a0, t3o pe0 t0 ne0 u0 hereS w0 c0) :: (a1, t3o pe1 t1 ne1 u1 hereS w1 c1) :: (a2, t3o pe2 t2 ne2 u2 hereS w2 c2) :: (a3, t3o pe3 t3 ne3 u3 hereS w3 c3) :: (hp, listOf #[.ref a0, .ref a1, .ref a2, .ref a3] c) :: bs) N (mem_put (.tail _ m0) (mem_put (.tail _ m1) (mem_put (.tail _ m2) (mem_put (.tail _ m3) (fun p hp => hp)))))
  clear N
  refine wpAny_call ?_
  k_dflt cell_enter
  (k_steps; repeat' (refine Stop9.inn ?_; (first | ((with_reducible show wpAny _ _ (compareOp CmpOp.Lt _ _) _ _ _); k_here; k_dflt (refine' lt3N ?N ?a ?b ?u ?_; (case N => k_asm); (case a => k_mem); (case b => k_mem); (case u => first | ktr_units | k_units); k_whole); (try dsimp only)) | (k_here; (with_reducible show wpAny _ _ (getMethod (Value.ref _) (PySem.Str.ofString "append") _) _ _ _); k_dflt (refine' listMethod_K ?N ?m PySem.F.slot_list_append PySem.F.type_list_append ?_; (case N => k_asm); (case m => k_mem))) | (k_here; (try dsimp only [List.cons_append, List.nil_append]); (with_reducible show wpAny _ _ (call (Value.builtin _) [Value.ref _, _]) _ _ _); k_dflt (refine' append_K ?k1 ?k2 ?k3 ?_ ?z; (case k1 => k_asm); (case k2 => k_asm); (case k3 => k_upd); (case z => ((simp only [List.size_toArray, Array.size_push, List.length_append, List.length_cons, List.length_nil, sizeLine_eq]); omega)); k_whole); intro _ _ N'; (simp only [List.push_toArray, List.cons_append, List.nil_append] at N')) | (k_here; k_dflt (refine' truthyL ?N ?m ?f ?e ?_; (case N => k_asm); (case m => k_mem); (case f => exact Nat.le_of_ble_eq_true rfl); (case e => first | exact (rfl : _ = true) | exact (rfl : _ = false))); intro _; (try dsimp only))); all_goals k_steps))
  all_goals ((rename News _ _ _ _ => nE); (rename Fr _ _ _ _ => fE); exact ret _ _ _ fE (by (try first | rw [if_pos (show lt3 (.ref a3, pe3, ne3) (.ref a1, pe1, ne1) = true from ‹ltK pe3 ne3 pe1 ne1 = true›)] | rw [if_neg (show ¬ lt3 (.ref a3, pe3, ne3) (.ref a1, pe1, ne1) = true from (by show ¬ ltK pe3 ne3 pe1 ne1 = true; rw [‹ltK pe3 ne3 pe1 ne1 = false›]; decide))]); (try first | rw [if_pos (show lt3 (.ref a3, pe3, ne3) (.ref a0, pe0, ne0) = true from ‹ltK pe3 ne3 pe0 ne0 = true›)] | rw [if_neg (show ¬ lt3 (.ref a3, pe3, ne3) (.ref a0, pe0, ne0) = true from (by show ¬ ltK pe3 ne3 pe0 ne0 = true; rw [‹ltK pe3 ne3 pe0 ne0 = false›]; decide))]); exact news_sub' nE (fun p hp => .tail _ (.tail _ (.tail _ (.tail _ (hp)))))))
theorem su1 {bs : List (Addr × Obj)} {hp : Nat} {c : Nat} {e0 : Itm3} {tk0 : Tok}
   (B : Below A₀ base outer h₀) (F : Fr h₀ L s.heap m) (X : (KY w.params).In h₀) (T : Top pg lz mean mg mb h₀) (hk : cs.kind = .function)
   (hdp : dp + 30 ≤ 700) (hun : un + 150 ≤ 4000) (N : News h₀ L s.heap ((hp, listOf (vals [e0]) c) :: bs)) (hne : ∀ p ∈ bs, p.1 ≠ hp) (h0 : Has3 bs e0)
   (ret : ∀ (h' : Heap) (tk' c' : Nat), Fr h₀ L h' m → News h₀ L h' ((hp, listOf (vals [e0]) c') :: bs) → Q .none { s with heap := h', toks := tk' }) :
   wpAny (model PySem.Challenge.rw_nq0264_01.prog w) (ktrTop dp un gd cn cs L a ccd cl outer) (call (.ref 123) [.ref hp, .int 0 tk0]) Q E s := by
  have st0 : ∀ M A a b Q E s, Nonempty (StopP (wpAny M A (compareOp CmpOp.Lt (Value.ref a) (Value.ref b)) Q E s)) := by intros; exact StopP.mk
  have st1 : ∀ M A a z Q E s, Nonempty (StopP (wpAny M A (getMethod (Value.ref a) (PySem.Str.ofString "append") z) Q E s)) := by intros; exact StopP.mk
  have st2 : ∀ M A as ks Q E s, Nonempty (StopP (wpAny M A (call (Value.builtin "list.append") as ks) Q E s)) := by intros; exact StopP.mk
  have st3 : ∀ M A a Q E s, Nonempty (StopP (wpAny M A (PySem.truthy (Value.ref a)) Q E s)) := by intros; exact StopP.mk
  have st4 : ∀ M A a as ks Q E s, Nonempty (StopP (wpAny M A (call (Value.ref a) as ks) Q E s)) := by intros; exact StopP.mk
  w_on
  obtain ⟨ve0, pe0, ne0⟩ := e0
  obtain ⟨a0, t0, u0, w0, c0, rfl, m0⟩ := h0
  dsimp only at m0
  have k0 := hne _ m0
  dsimp only at k0
  have N2 := news_sub' (l' := (a0, t3o pe0 t0 ne0 u0 hereS w0 c0) :: (hp, listOf #[.ref a0] c) :: bs) N (mem_put (.tail _ m0) (fun p hp => hp))
  clear N
  refine wpAny_call ?_
  k_dflt cell_enter
  (k_steps; repeat' (refine Stop9.inn ?_; (first | ((with_reducible show wpAny _ _ (compareOp CmpOp.Lt _ _) _ _ _); k_here; k_dflt (refine' lt3N ?N ?a ?b ?u ?_; (case N => k_asm); (case a => k_mem); (case b => k_mem); (case u => first | ktr_units | k_units); k_whole); (try dsimp only)) | (k_here; (with_reducible show wpAny _ _ (getMethod (Value.ref _) (PySem.Str.ofString "append") _) _ _ _); k_dflt (refine' listMethod_K ?N ?m PySem.F.slot_list_append PySem.F.type_list_append ?_; (case N => k_asm); (case m => k_mem))) | (k_here; (try dsimp only [List.cons_append, List.nil_append]); (with_reducible show wpAny _ _ (call (Value.builtin _) [Value.ref _, _]) _ _ _); k_dflt (refine' append_K ?k1 ?k2 ?k3 ?_ ?z; (case k1 => k_asm); (case k2 => k_asm); (case k3 => k_upd); (case z => ((simp only [List.size_toArray, Array.size_push, List.length_append, List.length_cons, List.length_nil, sizeLine_eq]); omega)); k_whole); intro _ _ N'; (simp only [List.push_toArray, List.cons_append, List.nil_append] at N')) | (k_here; k_dflt (refine' truthyL ?N ?m ?f ?e ?_; (case N => k_asm); (case m => k_mem); (case f => exact Nat.le_of_ble_eq_true rfl); (case e => first | exact (rfl : _ = true) | exact (rfl : _ = false))); intro _; (try dsimp only))); all_goals k_steps))
  all_goals (unfold Stop9; (rename News _ _ _ _ => nE); (rename Fr _ _ _ _ => fE); (rename Below _ _ _ _ => B'); (rename Frag.In _ _ => X'); (rename Top _ _ _ _ _ _ => T'))
  · refine sd10 (e0 := (.ref a0, pe0, ne0)) (bs := bs) B' fE X' T' rfl ?h1 ?h2 (news_sub' nE (fun p hp => .tail _ (hp))) hne ⟨a0, t0, u0, w0, c0, rfl, m0⟩ ?_
    case h1 => ktr_room
    case h2 => ktr_units
    intro h9 tk9 c9 F9 N9
    clear nE fE
    (k_steps; repeat' (refine Stop9.inn ?_; (first | ((with_reducible show wpAny _ _ (compareOp CmpOp.Lt _ _) _ _ _); k_here; k_dflt (refine' lt3N ?N ?a ?b ?u ?_; (case N => k_asm); (case a => k_mem); (case b => k_mem); (case u => first | ktr_units | k_units); k_whole); (try dsimp only)) | (k_here; (with_reducible show wpAny _ _ (getMethod (Value.ref _) (PySem.Str.ofString "append") _) _ _ _); k_dflt (refine' listMethod_K ?N ?m PySem.F.slot_list_append PySem.F.type_list_append ?_; (case N => k_asm); (case m => k_mem))) | (k_here; (try dsimp only [List.cons_append, List.nil_append]); (with_reducible show wpAny _ _ (call (Value.builtin _) [Value.ref _, _]) _ _ _); k_dflt (refine' append_K ?k1 ?k2 ?k3 ?_ ?z; (case k1 => k_asm); (case k2 => k_asm); (case k3 => k_upd); (case z => ((simp only [List.size_toArray, Array.size_push, List.length_append, List.length_cons, List.length_nil, sizeLine_eq]); omega)); k_whole); intro _ _ N'; (simp only [List.push_toArray, List.cons_append, List.nil_append] at N')) | (k_here; k_dflt (refine' truthyL ?N ?m ?f ?e ?_; (case N => k_asm); (case m => k_mem); (case f => exact Nat.le_of_ble_eq_true rfl); (case e => first | exact (rfl : _ = true) | exact (rfl : _ = false))); intro _; (try dsimp only))); all_goals k_steps))
    (rename News _ _ _ _ => nE)
    (rename Fr _ _ _ _ => fE)
    exact ret _ _ _ fE (by exact nE)
theorem su2 {bs : List (Addr × Obj)} {hp : Nat} {c : Nat} {e0 e1 : Itm3} {tk0 : Tok}
   (B : Below A₀ base outer h₀) (F : Fr h₀ L s.heap m) (X : (KY w.params).In h₀) (T : Top pg lz mean mg mb h₀) (hk : cs.kind = .function)
   (hdp : dp + 30 ≤ 700) (hun : un + 150 ≤ 4000) (N : News h₀ L s.heap ((hp, listOf (vals [e0, e1]) c) :: bs)) (hne : ∀ p ∈ bs, p.1 ≠ hp) (h0 : Has3 bs e0) (h1 : Has3 bs e1)
   (ret : ∀ (h' : Heap) (tk' c' : Nat), Fr h₀ L h' m → News h₀ L h' ((hp, listOf (vals (if lt3 e0 e1 = true then [e0, e1] else [e1, e0])) c') :: bs) → Q .none { s with heap := h', toks := tk' }) :
   wpAny (model PySem.Challenge.rw_nq0264_01.prog w) (ktrTop dp un gd cn cs L a ccd cl outer) (call (.ref 123) [.ref hp, .int 0 tk0]) Q E s := by
  have st0 : ∀ M A a b Q E s, Nonempty (StopP (wpAny M A (compareOp CmpOp.Lt (Value.ref a) (Value.ref b)) Q E s)) := by intros; exact StopP.mk
  have st1 : ∀ M A a z Q E s, Nonempty (StopP (wpAny M A (getMethod (Value.ref a) (PySem.Str.ofString "append") z) Q E s)) := by intros; exact StopP.mk
  have st2 : ∀ M A as ks Q E s, Nonempty (StopP (wpAny M A (call (Value.builtin "list.append") as ks) Q E s)) := by intros; exact StopP.mk
  have st3 : ∀ M A a Q E s, Nonempty (StopP (wpAny M A (PySem.truthy (Value.ref a)) Q E s)) := by intros; exact StopP.mk
  have st4 : ∀ M A a as ks Q E s, Nonempty (StopP (wpAny M A (call (Value.ref a) as ks) Q E s)) := by intros; exact StopP.mk
  w_on
  obtain ⟨ve0, pe0, ne0⟩ := e0
  obtain ⟨ve1, pe1, ne1⟩ := e1
  obtain ⟨a0, t0, u0, w0, c0, rfl, m0⟩ := h0
  obtain ⟨a1, t1, u1, w1, c1, rfl, m1⟩ := h1
  dsimp only at m0 m1
  have k0 := hne _ m0
  have k1 := hne _ m1
  dsimp only at k0 k1
  have N2 := news_sub' (l' := (a0, t3o pe0 t0 ne0 u0 hereS w0 c0) :: (a1, t3o pe1 t1 ne1 u1 hereS w1 c1) :: (hp, listOf #[.ref a0, .ref a1] c) :: bs) N (mem_put (.tail _ m0) (mem_put (.tail _ m1) (fun p hp => hp)))
  clear N
  refine wpAny_call ?_
  k_dflt cell_enter
  (k_steps; repeat' (refine Stop9.inn ?_; (first | ((with_reducible show wpAny _ _ (compareOp CmpOp.Lt _ _) _ _ _); k_here; k_dflt (refine' lt3N ?N ?a ?b ?u ?_; (case N => k_asm); (case a => k_mem); (case b => k_mem); (case u => first | ktr_units | k_units); k_whole); (try dsimp only)) | (k_here; (with_reducible show wpAny _ _ (getMethod (Value.ref _) (PySem.Str.ofString "append") _) _ _ _); k_dflt (refine' listMethod_K ?N ?m PySem.F.slot_list_append PySem.F.type_list_append ?_; (case N => k_asm); (case m => k_mem))) | (k_here; (try dsimp only [List.cons_append, List.nil_append]); (with_reducible show wpAny _ _ (call (Value.builtin _) [Value.ref _, _]) _ _ _); k_dflt (refine' append_K ?k1 ?k2 ?k3 ?_ ?z; (case k1 => k_asm); (case k2 => k_asm); (case k3 => k_upd); (case z => ((simp only [List.size_toArray, Array.size_push, List.length_append, List.length_cons, List.length_nil, sizeLine_eq]); omega)); k_whole); intro _ _ N'; (simp only [List.push_toArray, List.cons_append, List.nil_append] at N')) | (k_here; k_dflt (refine' truthyL ?N ?m ?f ?e ?_; (case N => k_asm); (case m => k_mem); (case f => exact Nat.le_of_ble_eq_true rfl); (case e => first | exact (rfl : _ = true) | exact (rfl : _ = false))); intro _; (try dsimp only))); all_goals k_steps))
  all_goals (unfold Stop9; (rename News _ _ _ _ => nE); (rename Fr _ _ _ _ => fE); (rename Below _ _ _ _ => B'); (rename Frag.In _ _ => X'); (rename Top _ _ _ _ _ _ => T'))
  · refine sd21 (e0 := (.ref a1, pe1, ne1)) (e1 := (.ref a0, pe0, ne0)) (bs := bs) B' fE X' T' rfl ?h1 ?h2 (news_sub' nE (fun p hp => .tail _ (.tail _ (hp)))) hne ⟨a1, t1, u1, w1, c1, rfl, m1⟩ ⟨a0, t0, u0, w0, c0, rfl, m0⟩ ?_
    case h1 => ktr_room
    case h2 => ktr_units
    intro h9 tk9 c9 F9 N9
    clear nE fE
    (k_steps; repeat' (refine Stop9.inn ?_; (first | ((with_reducible show wpAny _ _ (compareOp CmpOp.Lt _ _) _ _ _); k_here; k_dflt (refine' lt3N ?N ?a ?b ?u ?_; (case N => k_asm); (case a => k_mem); (case b => k_mem); (case u => first | ktr_units | k_units); k_whole); (try dsimp only)) | (k_here; (with_reducible show wpAny _ _ (getMethod (Value.ref _) (PySem.Str.ofString "append") _) _ _ _); k_dflt (refine' listMethod_K ?N ?m PySem.F.slot_list_append PySem.F.type_list_append ?_; (case N => k_asm); (case m => k_mem))) | (k_here; (try dsimp only [List.cons_append, List.nil_append]); (with_reducible show wpAny _ _ (call (Value.builtin _) [Value.ref _, _]) _ _ _); k_dflt (refine' append_K ?k1 ?k2 ?k3 ?_ ?z; (case k1 => k_asm); (case k2 => k_asm); (case k3 => k_upd); (case z => ((simp only [List.size_toArray, Array.size_push, List.length_append, List.length_cons, List.length_nil, sizeLine_eq]); omega)); k_whole); intro _ _ N'; (simp only [List.push_toArray, List.cons_append, List.nil_append] at N')) | (k_here; k_dflt (refine' truthyL ?N ?m ?f ?e ?_; (case N => k_asm); (case m => k_mem); (case f => exact Nat.le_of_ble_eq_true rfl); (case e => first | exact (rfl : _ = true) | exact (rfl : _ = false))); intro _; (try dsimp only))); all_goals k_steps))
    (rename News _ _ _ _ => nE)
    (rename Fr _ _ _ _ => fE)
    exact ret _ _ _ fE (by exact nE)
theorem su3 {bs : List (Addr × Obj)} {hp : Nat} {c : Nat} {e0 e1 e2 : Itm3} {tk0 : Tok}
   (B : Below A₀ base outer h₀) (F : Fr h₀ L s.heap m) (X : (KY w.params).In h₀) (T : Top pg lz mean mg mb h₀) (hk : cs.kind = .function)
   (hdp : dp + 30 ≤ 700) (hun : un + 150 ≤ 4000) (N : News h₀ L s.heap ((hp, listOf (vals [e0, e1, e2]) c) :: bs)) (hne : ∀ p ∈ bs, p.1 ≠ hp) (h0 : Has3 bs e0) (h1 : Has3 bs e1) (h2 : Has3 bs e2)
   (ret : ∀ (h' : Heap) (tk' c' : Nat), Fr h₀ L h' m → News h₀ L h' ((hp, listOf (vals (if lt3 e1 e2 = true then (if lt3 e0 e1 = true then [e0, e1, e2] else [e1, e0, e2]) else (if lt3 e0 e2 = true then [e0, e1, e2] else [e2, e1, e0]))) c') :: bs) → Q .none { s with heap := h', toks := tk' }) :
   wpAny (model PySem.Challenge.rw_nq0264_01.prog w) (ktrTop dp un gd cn cs L a ccd cl outer) (call (.ref 123) [.ref hp, .int 0 tk0]) Q E s := by
  have st0 : ∀ M A a b Q E s, Nonempty (StopP (wpAny M A (compareOp CmpOp.Lt (Value.ref a) (Value.ref b)) Q E s)) := by intros; exact StopP.mk
  have st1 : ∀ M A a z Q E s, Nonempty (StopP (wpAny M A (getMethod (Value.ref a) (PySem.Str.ofString "append") z) Q E s)) := by intros; exact StopP.mk
  have st2 : ∀ M A as ks Q E s, Nonempty (StopP (wpAny M A (call (Value.builtin "list.append") as ks) Q E s)) := by intros; exact StopP.mk
  have st3 : ∀ M A a Q E s, Nonempty (StopP (wpAny M A (PySem.truthy (Value.ref a)) Q E s)) := by intros; exact StopP.mk
  have st4 : ∀ M A a as ks Q E s, Nonempty (StopP (wpAny M A (call (Value.ref a) as ks) Q E s)) := by intros; exact StopP.mk
  w_on
  obtain ⟨ve0, pe0, ne0⟩ := e0
  obtain ⟨ve1, pe1, ne1⟩ := e1
  obtain ⟨ve2, pe2, ne2⟩ := e2
  obtain ⟨a0, t0, u0, w0, c0, rfl, m0⟩ := h0
  obtain ⟨a1, t1, u1, w1, c1, rfl, m1⟩ := h1
  obtain ⟨a2, t2, u2, w2, c2, rfl, m2⟩ := h2
  dsimp only at m0 m1 m2
  have k0 := hne _ m0
  have k1 := hne _ m1
  have k2 := hne _ m2
  dsimp only at k0 k1 k2
  have N2 := news_sub' (l' := (a0, t3o pe0 t0 ne0 u0 hereS w0 c0) :: (a1, t3o pe1 t1 ne1 u1 hereS w1 c1) :: (a2, t3o pe2 t2 ne2 u2 hereS w2 c2) :: (hp, listOf #[.ref a0, .ref a1, .ref a2] c) :: bs) N (mem_put (.tail _ m0) (mem_put (.tail _ m1) (mem_put (.tail _ m2) (fun p hp => hp))))
  clear N
  refine wpAny_call ?_
  k_dflt cell_enter
  (k_steps; repeat' (refine Stop9.inn ?_; (first | ((with_reducible show wpAny _ _ (compareOp CmpOp.Lt _ _) _ _ _); k_here; k_dflt (refine' lt3N ?N ?a ?b ?u ?_; (case N => k_asm); (case a => k_mem); (case b => k_mem); (case u => first | ktr_units | k_units); k_whole); (try dsimp only)) | (k_here; (with_reducible show wpAny _ _ (getMethod (Value.ref _) (PySem.Str.ofString "append") _) _ _ _); k_dflt (refine' listMethod_K ?N ?m PySem.F.slot_list_append PySem.F.type_list_append ?_; (case N => k_asm); (case m => k_mem))) | (k_here; (try dsimp only [List.cons_append, List.nil_append]); (with_reducible show wpAny _ _ (call (Value.builtin _) [Value.ref _, _]) _ _ _); k_dflt (refine' append_K ?k1 ?k2 ?k3 ?_ ?z; (case k1 => k_asm); (case k2 => k_asm); (case k3 => k_upd); (case z => ((simp only [List.size_toArray, Array.size_push, List.length_append, List.length_cons, List.length_nil, sizeLine_eq]); omega)); k_whole); intro _ _ N'; (simp only [List.push_toArray, List.cons_append, List.nil_append] at N')) | (k_here; k_dflt (refine' truthyL ?N ?m ?f ?e ?_; (case N => k_asm); (case m => k_mem); (case f => exact Nat.le_of_ble_eq_true rfl); (case e => first | exact (rfl : _ = true) | exact (rfl : _ = false))); intro _; (try dsimp only))); all_goals k_steps))
  all_goals (unfold Stop9; (rename News _ _ _ _ => nE); (rename Fr _ _ _ _ => fE); (rename Below _ _ _ _ => B'); (rename Frag.In _ _ => X'); (rename Top _ _ _ _ _ _ => T'))
  · skip
    refine sd31 (e0 := (.ref a1, pe1, ne1)) (e1 := (.ref a0, pe0, ne0)) (e2 := (.ref a2, pe2, ne2)) (bs := bs) B' fE X' T' rfl ?h1 ?h2 (news_sub' nE (fun p hp => .tail _ (.tail _ (.tail _ (hp))))) hne ⟨a1, t1, u1, w1, c1, rfl, m1⟩ ⟨a0, t0, u0, w0, c0, rfl, m0⟩ ⟨a2, t2, u2, w2, c2, rfl, m2⟩ ?_
    case h1 => ktr_room
    case h2 => ktr_units
    intro h9 tk9 c9 F9 N9
    clear nE fE
    (k_steps; repeat' (refine Stop9.inn ?_; (first | ((with_reducible show wpAny _ _ (compareOp CmpOp.Lt _ _) _ _ _); k_here; k_dflt (refine' lt3N ?N ?a ?b ?u ?_; (case N => k_asm); (case a => k_mem); (case b => k_mem); (case u => first | ktr_units | k_units); k_whole); (try dsimp only)) | (k_here; (with_reducible show wpAny _ _ (getMethod (Value.ref _) (PySem.Str.ofString "append") _) _ _ _); k_dflt (refine' listMethod_K ?N ?m PySem.F.slot_list_append PySem.F.type_list_append ?_; (case N => k_asm); (case m => k_mem))) | (k_here; (try dsimp only [List.cons_append, List.nil_append]); (with_reducible show wpAny _ _ (call (Value.builtin _) [Value.ref _, _]) _ _ _); k_dflt (refine' append_K ?k1 ?k2 ?k3 ?_ ?z; (case k1 => k_asm); (case k2 => k_asm); (case k3 => k_upd); (case z => ((simp only [List.size_toArray, Array.size_push, List.length_append, List.length_cons, List.length_nil, sizeLine_eq]); omega)); k_whole); intro _ _ N'; (simp only [List.push_toArray, List.cons_append, List.nil_append] at N')) | (k_here; k_dflt (refine' truthyL ?N ?m ?f ?e ?_; (case N => k_asm); (case m => k_mem); (case f => exact Nat.le_of_ble_eq_true rfl); (case e => first | exact (rfl : _ = true) | exact (rfl : _ = false))); intro _; (try dsimp only))); all_goals k_steps))
    (rename News _ _ _ _ => nE)
    (rename Fr _ _ _ _ => fE)
    exact ret _ _ _ fE (by (try first | rw [if_pos (show lt3 (.ref a1, pe1, ne1) (.ref a2, pe2, ne2) = true from ‹ltK pe1 ne1 pe2 ne2 = true›)] | rw [if_neg (show ¬ lt3 (.ref a1, pe1, ne1) (.ref a2, pe2, ne2) = true from (by show ¬ ltK pe1 ne1 pe2 ne2 = true; rw [‹ltK pe1 ne1 pe2 ne2 = false›]; decide))]); exact nE)
  · refine sd32 (e0 := (.ref a2, pe2, ne2)) (e1 := (.ref a1, pe1, ne1)) (e2 := (.ref a0, pe0, ne0)) (bs := bs) B' fE X' T' rfl ?h1 ?h2 (news_sub' nE (fun p hp => .tail _ (.tail _ (.tail _ (hp))))) hne ⟨a2, t2, u2, w2, c2, rfl, m2⟩ ⟨a1, t1, u1, w1, c1, rfl, m1⟩ ⟨a0, t0, u0, w0, c0, rfl, m0⟩ ?_
    case h1 => ktr_room
    case h2 => ktr_units
    intro h9 tk9 c9 F9 N9
    clear nE fE
    (k_steps; repeat' (refine Stop9.inn ?_; (first | ((with_reducible show wpAny _ _ (compareOp CmpOp.Lt _ _) _ _ _); k_here; k_dflt (refine' lt3N ?N ?a ?b ?u ?_; (case N => k_asm); (case a => k_mem); (case b => k_mem); (case u => first | ktr_units | k_units); k_whole); (try dsimp only)) | (k_here; (with_reducible show wpAny _ _ (getMethod (Value.ref _) (PySem.Str.ofString "append") _) _ _ _); k_dflt (refine' listMethod_K ?N ?m PySem.F.slot_list_append PySem.F.type_list_append ?_; (case N => k_asm); (case m => k_mem))) | (k_here; (try dsimp only [List.cons_append, List.nil_append]); (with_reducible show wpAny _ _ (call (Value.builtin _) [Value.ref _, _]) _ _ _); k_dflt (refine' append_K ?k1 ?k2 ?k3 ?_ ?z; (case k1 => k_asm); (case k2 => k_asm); (case k3 => k_upd); (case z => ((simp only [List.size_toArray, Array.size_push, List.length_append, List.length_cons, List.length_nil, sizeLine_eq]); omega)); k_whole); intro _ _ N'; (simp only [List.push_toArray, List.cons_append, List.nil_append] at N')) | (k_here; k_dflt (refine' truthyL ?N ?m ?f ?e ?_; (case N => k_asm); (case m => k_mem); (case f => exact Nat.le_of_ble_eq_true rfl); (case e => first | exact (rfl : _ = true) | exact (rfl : _ = false))); intro _; (try dsimp only))); all_goals k_steps))
    (rename News _ _ _ _ => nE)
    (rename Fr _ _ _ _ => fE)
    exact ret _ _ _ fE (by (try first | rw [if_pos (show lt3 (.ref a1, pe1, ne1) (.ref a2, pe2, ne2) = true from ‹ltK pe1 ne1 pe2 ne2 = true›)] | rw [if_neg (show ¬ lt3 (.ref a1, pe1, ne1) (.ref a2, pe2, ne2) = true from (by show ¬ ltK pe1 ne1 pe2 ne2 = true; rw [‹ltK pe1 ne1 pe2 ne2 = false›]; decide))]); exact nE)
theorem push0 {bs : List (Addr × Obj)} {hp : Nat} {c : Nat} {x  : Itm3}
   (B : Below A₀ base outer h₀) (F : Fr h₀ L s.heap m) (X : (KY w.params).In h₀) (T : Top pg lz mean mg mb h₀) (hk : cs.kind = .function)
   (hdp : dp + 50 ≤ 700) (hun : un + 300 ≤ 4000) (N : News h₀ L s.heap ((hp, listOf (vals []) c) :: bs)) (hne : ∀ p ∈ bs, p.1 ≠ hp)  (hx : Has3 bs x)
   (ret : ∀ (h' : Heap) (tk' c' : Nat), Fr h₀ L h' m → News h₀ L h' ((hp, listOf (vals (hpush [] x)) c') :: bs) → Q .none { s with heap := h', toks := tk' }) :
   wpAny (model PySem.Challenge.rw_nq0264_01.prog w) (ktrTop dp un gd cn cs L a ccd cl outer) (call (.ref 102) [.ref hp, x.1]) Q E s := by
  have st0 : ∀ M A a b Q E s, Nonempty (StopP (wpAny M A (compareOp CmpOp.Lt (Value.ref a) (Value.ref b)) Q E s)) := by intros; exact StopP.mk
  have st1 : ∀ M A a z Q E s, Nonempty (StopP (wpAny M A (getMethod (Value.ref a) (PySem.Str.ofString "append") z) Q E s)) := by intros; exact StopP.mk
  have st2 : ∀ M A as ks Q E s, Nonempty (StopP (wpAny M A (call (Value.builtin "list.append") as ks) Q E s)) := by intros; exact StopP.mk
  have st3 : ∀ M A a Q E s, Nonempty (StopP (wpAny M A (PySem.truthy (Value.ref a)) Q E s)) := by intros; exact StopP.mk
  have st4 : ∀ M A a as ks Q E s, Nonempty (StopP (wpAny M A (call (Value.ref a) as ks) Q E s)) := by intros; exact StopP.mk
  w_on
  have N2 : News h₀ L s.heap ((hp, listOf #[] c) :: bs) := N
  clear N
  refine wpAny_call ?_
  k_dflt cell_enter
  (k_steps; repeat' (refine Stop9.inn ?_; (first | ((with_reducible show wpAny _ _ (compareOp CmpOp.Lt _ _) _ _ _); k_here; k_dflt (refine' lt3N ?N ?a ?b ?u ?_; (case N => k_asm); (case a => k_mem); (case b => k_mem); (case u => first | ktr_units | k_units); k_whole); (try dsimp only)) | (k_here; (with_reducible show wpAny _ _ (getMethod (Value.ref _) (PySem.Str.ofString "append") _) _ _ _); k_dflt (refine' listMethod_K ?N ?m PySem.F.slot_list_append PySem.F.type_list_append ?_; (case N => k_asm); (case m => k_mem))) | (k_here; (try dsimp only [List.cons_append, List.nil_append]); (with_reducible show wpAny _ _ (call (Value.builtin _) [Value.ref _, _]) _ _ _); k_dflt (refine' append_K ?k1 ?k2 ?k3 ?_ ?z; (case k1 => k_asm); (case k2 => k_asm); (case k3 => k_upd); (case z => ((simp only [List.size_toArray, Array.size_push, List.length_append, List.length_cons, List.length_nil, sizeLine_eq]); omega)); k_whole); intro _ _ N'; (simp only [List.push_toArray, List.cons_append, List.nil_append] at N')) | (k_here; k_dflt (refine' truthyL ?N ?m ?f ?e ?_; (case N => k_asm); (case m => k_mem); (case f => exact Nat.le_of_ble_eq_true rfl); (case e => first | exact (rfl : _ = true) | exact (rfl : _ = false))); intro _; (try dsimp only))); all_goals k_steps))
  all_goals (unfold Stop9; (rename News _ _ _ _ => nE); (rename Fr _ _ _ _ => fE); (rename Below _ _ _ _ => B'); (rename Frag.In _ _ => X'); (rename Top _ _ _ _ _ _ => T'))
  refine sd10 (e0 := x) (bs := bs) B' fE X' T' rfl ?h1 ?h2 nE hne hx ?_
  case h1 => ktr_room
  case h2 => ktr_units
  intro h9 tk9 c9 F9 N9
  clear nE fE
  (k_steps; repeat' (refine Stop9.inn ?_; (first | ((with_reducible show wpAny _ _ (compareOp CmpOp.Lt _ _) _ _ _); k_here; k_dflt (refine' lt3N ?N ?a ?b ?u ?_; (case N => k_asm); (case a => k_mem); (case b => k_mem); (case u => first | ktr_units | k_units); k_whole); (try dsimp only)) | (k_here; (with_reducible show wpAny _ _ (getMethod (Value.ref _) (PySem.Str.ofString "append") _) _ _ _); k_dflt (refine' listMethod_K ?N ?m PySem.F.slot_list_append PySem.F.type_list_append ?_; (case N => k_asm); (case m => k_mem))) | (k_here; (try dsimp only [List.cons_append, List.nil_append]); (with_reducible show wpAny _ _ (call (Value.builtin _) [Value.ref _, _]) _ _ _); k_dflt (refine' append_K ?k1 ?k2 ?k3 ?_ ?z; (case k1 => k_asm); (case k2 => k_asm); (case k3 => k_upd); (case z => ((simp only [List.size_toArray, Array.size_push, List.length_append, List.length_cons, List.length_nil, sizeLine_eq]); omega)); k_whole); intro _ _ N'; (simp only [List.push_toArray, List.cons_append, List.nil_append] at N')) | (k_here; k_dflt (refine' truthyL ?N ?m ?f ?e ?_; (case N => k_asm); (case m => k_mem); (case f => exact Nat.le_of_ble_eq_true rfl); (case e => first | exact (rfl : _ = true) | exact (rfl : _ = false))); intro _; (try dsimp only))); all_goals k_steps))
  (rename News _ _ _ _ => nE)
  (rename Fr _ _ _ _ => fE)
  exact ret _ _ _ fE nE
theorem push1 {bs : List (Addr × Obj)} {hp : Nat} {c : Nat} {x e0 : Itm3}
   (B : Below A₀ base outer h₀) (F : Fr h₀ L s.heap m) (X : (KY w.params).In h₀) (T : Top pg lz mean mg mb h₀) (hk : cs.kind = .function)
   (hdp : dp + 50 ≤ 700) (hun : un + 300 ≤ 4000) (N : News h₀ L s.heap ((hp, listOf (vals [e0]) c) :: bs)) (hne : ∀ p ∈ bs, p.1 ≠ hp) (h0 : Has3 bs e0) (hx : Has3 bs x)
   (ret : ∀ (h' : Heap) (tk' c' : Nat), Fr h₀ L h' m → News h₀ L h' ((hp, listOf (vals (hpush [e0] x)) c') :: bs) → Q .none { s with heap := h', toks := tk' }) :
   wpAny (model PySem.Challenge.rw_nq0264_01.prog w) (ktrTop dp un gd cn cs L a ccd cl outer) (call (.ref 102) [.ref hp, x.1]) Q E s := by
  have st0 : ∀ M A a b Q E s, Nonempty (StopP (wpAny M A (compareOp CmpOp.Lt (Value.ref a) (Value.ref b)) Q E s)) := by intros; exact StopP.mk
  have st1 : ∀ M A a z Q E s, Nonempty (StopP (wpAny M A (getMethod (Value.ref a) (PySem.Str.ofString "append") z) Q E s)) := by intros; exact StopP.mk
  have st2 : ∀ M A as ks Q E s, Nonempty (StopP (wpAny M A (call (Value.builtin "list.append") as ks) Q E s)) := by intros; exact StopP.mk
  have st3 : ∀ M A a Q E s, Nonempty (StopP (wpAny M A (PySem.truthy (Value.ref a)) Q E s)) := by intros; exact StopP.mk
  have st4 : ∀ M A a as ks Q E s, Nonempty (StopP (wpAny M A (call (Value.ref a) as ks) Q E s)) := by intros; exact StopP.mk
  w_on
  have N2 : News h₀ L s.heap ((hp, listOf #[e0.1] c) :: bs) := N
  clear N
  refine wpAny_call ?_
  k_dflt cell_enter
  (k_steps; repeat' (refine Stop9.inn ?_; (first | ((with_reducible show wpAny _ _ (compareOp CmpOp.Lt _ _) _ _ _); k_here; k_dflt (refine' lt3N ?N ?a ?b ?u ?_; (case N => k_asm); (case a => k_mem); (case b => k_mem); (case u => first | ktr_units | k_units); k_whole); (try dsimp only)) | (k_here; (with_reducible show wpAny _ _ (getMethod (Value.ref _) (PySem.Str.ofString "append") _) _ _ _); k_dflt (refine' listMethod_K ?N ?m PySem.F.slot_list_append PySem.F.type_list_append ?_; (case N => k_asm); (case m => k_mem))) | (k_here; (try dsimp only [List.cons_append, List.nil_append]); (with_reducible show wpAny _ _ (call (Value.builtin _) [Value.ref _, _]) _ _ _); k_dflt (refine' append_K ?k1 ?k2 ?k3 ?_ ?z; (case k1 => k_asm); (case k2 => k_asm); (case k3 => k_upd); (case z => ((simp only [List.size_toArray, Array.size_push, List.length_append, List.length_cons, List.length_nil, sizeLine_eq]); omega)); k_whole); intro _ _ N'; (simp only [List.push_toArray, List.cons_append, List.nil_append] at N')) | (k_here; k_dflt (refine' truthyL ?N ?m ?f ?e ?_; (case N => k_asm); (case m => k_mem); (case f => exact Nat.le_of_ble_eq_true rfl); (case e => first | exact (rfl : _ = true) | exact (rfl : _ = false))); intro _; (try dsimp only))); all_goals k_steps))
  all_goals (unfold Stop9; (rename News _ _ _ _ => nE); (rename Fr _ _ _ _ => fE); (rename Below _ _ _ _ => B'); (rename Frag.In _ _ => X'); (rename Top _ _ _ _ _ _ => T'))
  refine sd21 (e0 := e0) (e1 := x) (bs := bs) B' fE X' T' rfl ?h1 ?h2 nE hne h0 hx ?_
  case h1 => ktr_room
  case h2 => ktr_units
  intro h9 tk9 c9 F9 N9
  clear nE fE
  (k_steps; repeat' (refine Stop9.inn ?_; (first | ((with_reducible show wpAny _ _ (compareOp CmpOp.Lt _ _) _ _ _); k_here; k_dflt (refine' lt3N ?N ?a ?b ?u ?_; (case N => k_asm); (case a => k_mem); (case b => k_mem); (case u => first | ktr_units | k_units); k_whole); (try dsimp only)) | (k_here; (with_reducible show wpAny _ _ (getMethod (Value.ref _) (PySem.Str.ofString "append") _) _ _ _); k_dflt (refine' listMethod_K ?N ?m PySem.F.slot_list_append PySem.F.type_list_append ?_; (case N => k_asm); (case m => k_mem))) | (k_here; (try dsimp only [List.cons_append, List.nil_append]); (with_reducible show wpAny _ _ (call (Value.builtin _) [Value.ref _, _]) _ _ _); k_dflt (refine' append_K ?k1 ?k2 ?k3 ?_ ?z; (case k1 => k_asm); (case k2 => k_asm); (case k3 => k_upd); (case z => ((simp only [List.size_toArray, Array.size_push, List.length_append, List.length_cons, List.length_nil, sizeLine_eq]); omega)); k_whole); intro _ _ N'; (simp only [List.push_toArray, List.cons_append, List.nil_append] at N')) | (k_here; k_dflt (refine' truthyL ?N ?m ?f ?e ?_; (case N => k_asm); (case m => k_mem); (case f => exact Nat.le_of_ble_eq_true rfl); (case e => first | exact (rfl : _ = true) | exact (rfl : _ = false))); intro _; (try dsimp only))); all_goals k_steps))
  (rename News _ _ _ _ => nE)
  (rename Fr _ _ _ _ => fE)
  exact ret _ _ _ fE nE
theorem push2 {bs : List (Addr × Obj)} {hp : Nat} {c : Nat} {x e0 e1 : Itm3}
   (B : Below A₀ base outer h₀) (F : Fr h₀ L s.heap m) (X : (KY w.params).In h₀) (T : Top pg lz mean mg mb h₀) (hk : cs.kind = .function)
   (hdp : dp + 50 ≤ 700) (hun : un + 300 ≤ 4000) (N : News h₀ L s.heap ((hp, listOf (vals [e0, e1]) c) :: bs)) (hne : ∀ p ∈ bs, p.1 ≠ hp) (h0 : Has3 bs e0) (h1 : Has3 bs e1) (hx : Has3 bs x)
   (ret : ∀ (h' : Heap) (tk' c' : Nat), Fr h₀ L h' m → News h₀ L h' ((hp, listOf (vals (hpush [e0, e1] x)) c') :: bs) → Q .none { s with heap := h', toks := tk' }) :
   wpAny (model PySem.Challenge.rw_nq0264_01.prog w) (ktrTop dp un gd cn cs L a ccd cl outer) (call (.ref 102) [.ref hp, x.1]) Q E s := by
  have st0 : ∀ M A a b Q E s, Nonempty (StopP (wpAny M A (compareOp CmpOp.Lt (Value.ref a) (Value.ref b)) Q E s)) := by intros; exact StopP.mk
  have st1 : ∀ M A a z Q E s, Nonempty (StopP (wpAny M A (getMethod (Value.ref a) (PySem.Str.ofString "append") z) Q E s)) := by intros; exact StopP.mk
  have st2 : ∀ M A as ks Q E s, Nonempty (StopP (wpAny M A (call (Value.builtin "list.append") as ks) Q E s)) := by intros; exact StopP.mk
  have st3 : ∀ M A a Q E s, Nonempty (StopP (wpAny M A (PySem.truthy (Value.ref a)) Q E s)) := by intros; exact StopP.mk
  have st4 : ∀ M A a as ks Q E s, Nonempty (StopP (wpAny M A (call (Value.ref a) as ks) Q E s)) := by intros; exact StopP.mk
  w_on
  have N2 : News h₀ L s.heap ((hp, listOf #[e0.1, e1.1] c) :: bs) := N
  clear N
  refine wpAny_call ?_
  k_dflt cell_enter
  (k_steps; repeat' (refine Stop9.inn ?_; (first | ((with_reducible show wpAny _ _ (compareOp CmpOp.Lt _ _) _ _ _); k_here; k_dflt (refine' lt3N ?N ?a ?b ?u ?_; (case N => k_asm); (case a => k_mem); (case b => k_mem); (case u => first | ktr_units | k_units); k_whole); (try dsimp only)) | (k_here; (with_reducible show wpAny _ _ (getMethod (Value.ref _) (PySem.Str.ofString "append") _) _ _ _); k_dflt (refine' listMethod_K ?N ?m PySem.F.slot_list_append PySem.F.type_list_append ?_; (case N => k_asm); (case m => k_mem))) | (k_here; (try dsimp only [List.cons_append, List.nil_append]); (with_reducible show wpAny _ _ (call (Value.builtin _) [Value.ref _, _]) _ _ _); k_dflt (refine' append_K ?k1 ?k2 ?k3 ?_ ?z; (case k1 => k_asm); (case k2 => k_asm); (case k3 => k_upd); (case z => ((simp only [List.size_toArray, Array.size_push, List.length_append, List.length_cons, List.length_nil, sizeLine_eq]); omega)); k_whole); intro _ _ N'; (simp only [List.push_toArray, List.cons_append, List.nil_append] at N')) | (k_here; k_dflt (refine' truthyL ?N ?m ?f ?e ?_; (case N => k_asm); (case m => k_mem); (case f => exact Nat.le_of_ble_eq_true rfl); (case e => first | exact (rfl : _ = true) | exact (rfl : _ = false))); intro _; (try dsimp only))); all_goals k_steps))
  all_goals (unfold Stop9; (rename News _ _ _ _ => nE); (rename Fr _ _ _ _ => fE); (rename Below _ _ _ _ => B'); (rename Frag.In _ _ => X'); (rename Top _ _ _ _ _ _ => T'))
  refine sd32 (e0 := e0) (e1 := e1) (e2 := x) (bs := bs) B' fE X' T' rfl ?h1 ?h2 nE hne h0 h1 hx ?_
  case h1 => ktr_room
  case h2 => ktr_units
  intro h9 tk9 c9 F9 N9
  clear nE fE
  (k_steps; repeat' (refine Stop9.inn ?_; (first | ((with_reducible show wpAny _ _ (compareOp CmpOp.Lt _ _) _ _ _); k_here; k_dflt (refine' lt3N ?N ?a ?b ?u ?_; (case N => k_asm); (case a => k_mem); (case b => k_mem); (case u => first | ktr_units | k_units); k_whole); (try dsimp only)) | (k_here; (with_reducible show wpAny _ _ (getMethod (Value.ref _) (PySem.Str.ofString "append") _) _ _ _); k_dflt (refine' listMethod_K ?N ?m PySem.F.slot_list_append PySem.F.type_list_append ?_; (case N => k_asm); (case m => k_mem))) | (k_here; (try dsimp only [List.cons_append, List.nil_append]); (with_reducible show wpAny _ _ (call (Value.builtin _) [Value.ref _, _]) _ _ _); k_dflt (refine' append_K ?k1 ?k2 ?k3 ?_ ?z; (case k1 => k_asm); (case k2 => k_asm); (case k3 => k_upd); (case z => ((simp only [List.size_toArray, Array.size_push, List.length_append, List.length_cons, List.length_nil, sizeLine_eq]); omega)); k_whole); intro _ _ N'; (simp only [List.push_toArray, List.cons_append, List.nil_append] at N')) | (k_here; k_dflt (refine' truthyL ?N ?m ?f ?e ?_; (case N => k_asm); (case m => k_mem); (case f => exact Nat.le_of_ble_eq_true rfl); (case e => first | exact (rfl : _ = true) | exact (rfl : _ = false))); intro _; (try dsimp only))); all_goals k_steps))
  (rename News _ _ _ _ => nE)
  (rename Fr _ _ _ _ => fE)
  exact ret _ _ _ fE nE
theorem push3 {bs : List (Addr × Obj)} {hp : Nat} {c : Nat} {x e0 e1 e2 : Itm3}
   (B : Below A₀ base outer h₀) (F : Fr h₀ L s.heap m) (X : (KY w.params).In h₀) (T : Top pg lz mean mg mb h₀) (hk : cs.kind = .function)
   (hdp : dp + 50 ≤ 700) (hun : un + 300 ≤ 4000) (N : News h₀ L s.heap ((hp, listOf (vals [e0, e1, e2]) c) :: bs)) (hne : ∀ p ∈ bs, p.1 ≠ hp) (h0 : Has3 bs e0) (h1 : Has3 bs e1) (h2 : Has3 bs e2) (hx : Has3 bs x)
   (ret : ∀ (h' : Heap) (tk' c' : Nat), Fr h₀ L h' m → News h₀ L h' ((hp, listOf (vals (hpush [e0, e1, e2] x)) c') :: bs) → Q .none { s with heap := h', toks := tk' }) :
   wpAny (model PySem.Challenge.rw_nq0264_01.prog w) (ktrTop dp un gd cn cs L a ccd cl outer) (call (.ref 102) [.ref hp, x.1]) Q E s := by
  have st0 : ∀ M A a b Q E s, Nonempty (StopP (wpAny M A (compareOp CmpOp.Lt (Value.ref a) (Value.ref b)) Q E s)) := by intros; exact StopP.mk
  have st1 : ∀ M A a z Q E s, Nonempty (StopP (wpAny M A (getMethod (Value.ref a) (PySem.Str.ofString "append") z) Q E s)) := by intros; exact StopP.mk
  have st2 : ∀ M A as ks Q E s, Nonempty (StopP (wpAny M A (call (Value.builtin "list.append") as ks) Q E s)) := by intros; exact StopP.mk
  have st3 : ∀ M A a Q E s, Nonempty (StopP (wpAny M A (PySem.truthy (Value.ref a)) Q E s)) := by intros; exact StopP.mk
  have st4 : ∀ M A a as ks Q E s, Nonempty (StopP (wpAny M A (call (Value.ref a) as ks) Q E s)) := by intros; exact StopP.mk
  w_on
  have N2 : News h₀ L s.heap ((hp, listOf #[e0.1, e1.1, e2.1] c) :: bs) := N
  clear N
  refine wpAny_call ?_
  k_dflt cell_enter
  (k_steps; repeat' (refine Stop9.inn ?_; (first | ((with_reducible show wpAny _ _ (compareOp CmpOp.Lt _ _) _ _ _); k_here; k_dflt (refine' lt3N ?N ?a ?b ?u ?_; (case N => k_asm); (case a => k_mem); (case b => k_mem); (case u => first | ktr_units | k_units); k_whole); (try dsimp only)) | (k_here; (with_reducible show wpAny _ _ (getMethod (Value.ref _) (PySem.Str.ofString "append") _) _ _ _); k_dflt (refine' listMethod_K ?N ?m PySem.F.slot_list_append PySem.F.type_list_append ?_; (case N => k_asm); (case m => k_mem))) | (k_here; (try dsimp only [List.cons_append, List.nil_append]); (with_reducible show wpAny _ _ (call (Value.builtin _) [Value.ref _, _]) _ _ _); k_dflt (refine' append_K ?k1 ?k2 ?k3 ?_ ?z; (case k1 => k_asm); (case k2 => k_asm); (case k3 => k_upd); (case z => ((simp only [List.size_toArray, Array.size_push, List.length_append, List.length_cons, List.length_nil, sizeLine_eq]); omega)); k_whole); intro _ _ N'; (simp only [List.push_toArray, List.cons_append, List.nil_append] at N')) | (k_here; k_dflt (refine' truthyL ?N ?m ?f ?e ?_; (case N => k_asm); (case m => k_mem); (case f => exact Nat.le_of_ble_eq_true rfl); (case e => first | exact (rfl : _ = true) | exact (rfl : _ = false))); intro _; (try dsimp only))); all_goals k_steps))
  all_goals (unfold Stop9; (rename News _ _ _ _ => nE); (rename Fr _ _ _ _ => fE); (rename Below _ _ _ _ => B'); (rename Frag.In _ _ => X'); (rename Top _ _ _ _ _ _ => T'))
  refine sd43 (e0 := e0) (e1 := e1) (e2 := e2) (e3 := x) (bs := bs) B' fE X' T' rfl ?h1 ?h2 nE hne h0 h1 h2 hx ?_
  case h1 => ktr_room
  case h2 => ktr_units
  intro h9 tk9 c9 F9 N9
  clear nE fE
  (k_steps; repeat' (refine Stop9.inn ?_; (first | ((with_reducible show wpAny _ _ (compareOp CmpOp.Lt _ _) _ _ _); k_here; k_dflt (refine' lt3N ?N ?a ?b ?u ?_; (case N => k_asm); (case a => k_mem); (case b => k_mem); (case u => first | ktr_units | k_units); k_whole); (try dsimp only)) | (k_here; (with_reducible show wpAny _ _ (getMethod (Value.ref _) (PySem.Str.ofString "append") _) _ _ _); k_dflt (refine' listMethod_K ?N ?m PySem.F.slot_list_append PySem.F.type_list_append ?_; (case N => k_asm); (case m => k_mem))) | (k_here; (try dsimp only [List.cons_append, List.nil_append]); (with_reducible show wpAny _ _ (call (Value.builtin _) [Value.ref _, _]) _ _ _); k_dflt (refine' append_K ?k1 ?k2 ?k3 ?_ ?z; (case k1 => k_asm); (case k2 => k_asm); (case k3 => k_upd); (case z => ((simp only [List.size_toArray, Array.size_push, List.length_append, List.length_cons, List.length_nil, sizeLine_eq]); omega)); k_whole); intro _ _ N'; (simp only [List.push_toArray, List.cons_append, List.nil_append] at N')) | (k_here; k_dflt (refine' truthyL ?N ?m ?f ?e ?_; (case N => k_asm); (case m => k_mem); (case f => exact Nat.le_of_ble_eq_true rfl); (case e => first | exact (rfl : _ = true) | exact (rfl : _ = false))); intro _; (try dsimp only))); all_goals k_steps))
  (rename News _ _ _ _ => nE)
  (rename Fr _ _ _ _ => fE)
  exact ret _ _ _ fE nE
theorem pop1 {bs : List (Addr × Obj)} {hp : Nat} {c : Nat} {e0 : Itm3}
   (B : Below A₀ base outer h₀) (F : Fr h₀ L s.heap m) (X : (KY w.params).In h₀) (T : Top pg lz mean mg mb h₀) (hk : cs.kind = .function)
   (hdp : dp + 50 ≤ 700) (hun : un + 300 ≤ 4000) (N : News h₀ L s.heap ((hp, listOf (vals [e0]) c) :: bs)) (hne : ∀ p ∈ bs, p.1 ≠ hp) (h0 : Has3 bs e0)
   (ret : ∀ (r : Itm3 × List Itm3), hpop [e0] = some r → ∀ (h' : Heap) (tk' c' : Nat), Fr h₀ L h' m → News h₀ L h' ((hp, listOf (vals r.2) c') :: bs) → Q r.1.1 { s with heap := h', toks := tk' }) :
   wpAny (model PySem.Challenge.rw_nq0264_01.prog w) (ktrTop dp un gd cn cs L a ccd cl outer) (call (.ref 109) [.ref hp]) Q E s := by
  have st0 : ∀ M A a b Q E s, Nonempty (StopP (wpAny M A (compareOp CmpOp.Lt (Value.ref a) (Value.ref b)) Q E s)) := by intros; exact StopP.mk
  have st1 : ∀ M A a z Q E s, Nonempty (StopP (wpAny M A (getMethod (Value.ref a) (PySem.Str.ofString "append") z) Q E s)) := by intros; exact StopP.mk
  have st2 : ∀ M A as ks Q E s, Nonempty (StopP (wpAny M A (call (Value.builtin "list.append") as ks) Q E s)) := by intros; exact StopP.mk
  have st3 : ∀ M A a Q E s, Nonempty (StopP (wpAny M A (PySem.truthy (Value.ref a)) Q E s)) := by intros; exact StopP.mk
  have st4 : ∀ M A a as ks Q E s, Nonempty (StopP (wpAny M A (call (Value.ref a) as ks) Q E s)) := by intros; exact StopP.mk
  w_on
  replace ret := ret _ rfl
  have N2 : News h₀ L s.heap ((hp, listOf #[e0.1] c) :: bs) := N
  clear N
  refine wpAny_call ?_
  k_dflt cell_enter
  (k_steps; repeat' (refine Stop9.inn ?_; (first | ((with_reducible show wpAny _ _ (compareOp CmpOp.Lt _ _) _ _ _); k_here; k_dflt (refine' lt3N ?N ?a ?b ?u ?_; (case N => k_asm); (case a => k_mem); (case b => k_mem); (case u => first | ktr_units | k_units); k_whole); (try dsimp only)) | (k_here; (with_reducible show wpAny _ _ (getMethod (Value.ref _) (PySem.Str.ofString "append") _) _ _ _); k_dflt (refine' listMethod_K ?N ?m PySem.F.slot_list_append PySem.F.type_list_append ?_; (case N => k_asm); (case m => k_mem))) | (k_here; (try dsimp only [List.cons_append, List.nil_append]); (with_reducible show wpAny _ _ (call (Value.builtin _) [Value.ref _, _]) _ _ _); k_dflt (refine' append_K ?k1 ?k2 ?k3 ?_ ?z; (case k1 => k_asm); (case k2 => k_asm); (case k3 => k_upd); (case z => ((simp only [List.size_toArray, Array.size_push, List.length_append, List.length_cons, List.length_nil, sizeLine_eq]); omega)); k_whole); intro _ _ N'; (simp only [List.push_toArray, List.cons_append, List.nil_append] at N')) | (k_here; k_dflt (refine' truthyL ?N ?m ?f ?e ?_; (case N => k_asm); (case m => k_mem); (case f => exact Nat.le_of_ble_eq_true rfl); (case e => first | exact (rfl : _ = true) | exact (rfl : _ = false))); intro _; (try dsimp only))); all_goals k_steps))
  (rename News _ _ _ _ => nE)
  (rename Fr _ _ _ _ => fE)
  exact ret _ _ _ fE nE
theorem pop2 {bs : List (Addr × Obj)} {hp : Nat} {c : Nat} {e0 e1 : Itm3}
   (B : Below A₀ base outer h₀) (F : Fr h₀ L s.heap m) (X : (KY w.params).In h₀) (T : Top pg lz mean mg mb h₀) (hk : cs.kind = .function)
   (hdp : dp + 50 ≤ 700) (hun : un + 300 ≤ 4000) (N : News h₀ L s.heap ((hp, listOf (vals [e0, e1]) c) :: bs)) (hne : ∀ p ∈ bs, p.1 ≠ hp) (h0 : Has3 bs e0) (h1 : Has3 bs e1)
   (ret : ∀ (r : Itm3 × List Itm3), hpop [e0, e1] = some r → ∀ (h' : Heap) (tk' c' : Nat), Fr h₀ L h' m → News h₀ L h' ((hp, listOf (vals r.2) c') :: bs) → Q r.1.1 { s with heap := h', toks := tk' }) :
   wpAny (model PySem.Challenge.rw_nq0264_01.prog w) (ktrTop dp un gd cn cs L a ccd cl outer) (call (.ref 109) [.ref hp]) Q E s := by
  have st0 : ∀ M A a b Q E s, Nonempty (StopP (wpAny M A (compareOp CmpOp.Lt (Value.ref a) (Value.ref b)) Q E s)) := by intros; exact StopP.mk
  have st1 : ∀ M A a z Q E s, Nonempty (StopP (wpAny M A (getMethod (Value.ref a) (PySem.Str.ofString "append") z) Q E s)) := by intros; exact StopP.mk
  have st2 : ∀ M A as ks Q E s, Nonempty (StopP (wpAny M A (call (Value.builtin "list.append") as ks) Q E s)) := by intros; exact StopP.mk
  have st3 : ∀ M A a Q E s, Nonempty (StopP (wpAny M A (PySem.truthy (Value.ref a)) Q E s)) := by intros; exact StopP.mk
  have st4 : ∀ M A a as ks Q E s, Nonempty (StopP (wpAny M A (call (Value.ref a) as ks) Q E s)) := by intros; exact StopP.mk
  w_on
  replace ret := ret _ rfl
  have N2 : News h₀ L s.heap ((hp, listOf #[e0.1, e1.1] c) :: bs) := N
  clear N
  refine wpAny_call ?_
  k_dflt cell_enter
  (k_steps; repeat' (refine Stop9.inn ?_; (first | ((with_reducible show wpAny _ _ (compareOp CmpOp.Lt _ _) _ _ _); k_here; k_dflt (refine' lt3N ?N ?a ?b ?u ?_; (case N => k_asm); (case a => k_mem); (case b => k_mem); (case u => first | ktr_units | k_units); k_whole); (try dsimp only)) | (k_here; (with_reducible show wpAny _ _ (getMethod (Value.ref _) (PySem.Str.ofString "append") _) _ _ _); k_dflt (refine' listMethod_K ?N ?m PySem.F.slot_list_append PySem.F.type_list_append ?_; (case N => k_asm); (case m => k_mem))) | (k_here; (try dsimp only [List.cons_append, List.nil_append]); (with_reducible show wpAny _ _ (call (Value.builtin _) [Value.ref _, _]) _ _ _); k_dflt (refine' append_K ?k1 ?k2 ?k3 ?_ ?z; (case k1 => k_asm); (case k2 => k_asm); (case k3 => k_upd); (case z => ((simp only [List.size_toArray, Array.size_push, List.length_append, List.length_cons, List.length_nil, sizeLine_eq]); omega)); k_whole); intro _ _ N'; (simp only [List.push_toArray, List.cons_append, List.nil_append] at N')) | (k_here; k_dflt (refine' truthyL ?N ?m ?f ?e ?_; (case N => k_asm); (case m => k_mem); (case f => exact Nat.le_of_ble_eq_true rfl); (case e => first | exact (rfl : _ = true) | exact (rfl : _ = false))); intro _; (try dsimp only))); all_goals k_steps))
  all_goals (unfold Stop9; (rename News _ _ _ _ => nE); (rename Fr _ _ _ _ => fE); (rename Below _ _ _ _ => B'); (rename Frag.In _ _ => X'); (rename Top _ _ _ _ _ _ => T'))
  refine su1 (e0 := e1) (bs := bs) B' fE X' T' rfl ?h1 ?h2 nE hne h1 ?_
  case h1 => ktr_room
  case h2 => ktr_units
  intro h9 tk9 c9 F9 N9
  clear nE fE
  (k_steps; repeat' (refine Stop9.inn ?_; (first | ((with_reducible show wpAny _ _ (compareOp CmpOp.Lt _ _) _ _ _); k_here; k_dflt (refine' lt3N ?N ?a ?b ?u ?_; (case N => k_asm); (case a => k_mem); (case b => k_mem); (case u => first | ktr_units | k_units); k_whole); (try dsimp only)) | (k_here; (with_reducible show wpAny _ _ (getMethod (Value.ref _) (PySem.Str.ofString "append") _) _ _ _); k_dflt (refine' listMethod_K ?N ?m PySem.F.slot_list_append PySem.F.type_list_append ?_; (case N => k_asm); (case m => k_mem))) | (k_here; (try dsimp only [List.cons_append, List.nil_append]); (with_reducible show wpAny _ _ (call (Value.builtin _) [Value.ref _, _]) _ _ _); k_dflt (refine' append_K ?k1 ?k2 ?k3 ?_ ?z; (case k1 => k_asm); (case k2 => k_asm); (case k3 => k_upd); (case z => ((simp only [List.size_toArray, Array.size_push, List.length_append, List.length_cons, List.length_nil, sizeLine_eq]); omega)); k_whole); intro _ _ N'; (simp only [List.push_toArray, List.cons_append, List.nil_append] at N')) | (k_here; k_dflt (refine' truthyL ?N ?m ?f ?e ?_; (case N => k_asm); (case m => k_mem); (case f => exact Nat.le_of_ble_eq_true rfl); (case e => first | exact (rfl : _ = true) | exact (rfl : _ = false))); intro _; (try dsimp only))); all_goals k_steps))
  (rename News _ _ _ _ => nE)
  (rename Fr _ _ _ _ => fE)
  exact ret _ _ _ fE nE
theorem pop3 {bs : List (Addr × Obj)} {hp : Nat} {c : Nat} {e0 e1 e2 : Itm3}
   (B : Below A₀ base outer h₀) (F : Fr h₀ L s.heap m) (X : (KY w.params).In h₀) (T : Top pg lz mean mg mb h₀) (hk : cs.kind = .function)
   (hdp : dp + 50 ≤ 700) (hun : un + 300 ≤ 4000) (N : News h₀ L s.heap ((hp, listOf (vals [e0, e1, e2]) c) :: bs)) (hne : ∀ p ∈ bs, p.1 ≠ hp) (h0 : Has3 bs e0) (h1 : Has3 bs e1) (h2 : Has3 bs e2)
   (ret : ∀ (r : Itm3 × List Itm3), hpop [e0, e1, e2] = some r → ∀ (h' : Heap) (tk' c' : Nat), Fr h₀ L h' m → News h₀ L h' ((hp, listOf (vals r.2) c') :: bs) → Q r.1.1 { s with heap := h', toks := tk' }) :
   wpAny (model PySem.Challenge.rw_nq0264_01.prog w) (ktrTop dp un gd cn cs L a ccd cl outer) (call (.ref 109) [.ref hp]) Q E s := by
  have st0 : ∀ M A a b Q E s, Nonempty (StopP (wpAny M A (compareOp CmpOp.Lt (Value.ref a) (Value.ref b)) Q E s)) := by intros; exact StopP.mk
  have st1 : ∀ M A a z Q E s, Nonempty (StopP (wpAny M A (getMethod (Value.ref a) (PySem.Str.ofString "append") z) Q E s)) := by intros; exact StopP.mk
  have st2 : ∀ M A as ks Q E s, Nonempty (StopP (wpAny M A (call (Value.builtin "list.append") as ks) Q E s)) := by intros; exact StopP.mk
  have st3 : ∀ M A a Q E s, Nonempty (StopP (wpAny M A (PySem.truthy (Value.ref a)) Q E s)) := by intros; exact StopP.mk
  have st4 : ∀ M A a as ks Q E s, Nonempty (StopP (wpAny M A (call (Value.ref a) as ks) Q E s)) := by intros; exact StopP.mk
  w_on
  replace ret := ret _ rfl
  have N2 : News h₀ L s.heap ((hp, listOf #[e0.1, e1.1, e2.1] c) :: bs) := N
  clear N
  refine wpAny_call ?_
  k_dflt cell_enter
  (k_steps; repeat' (refine Stop9.inn ?_; (first | ((with_reducible show wpAny _ _ (compareOp CmpOp.Lt _ _) _ _ _); k_here; k_dflt (refine' lt3N ?N ?a ?b ?u ?_; (case N => k_asm); (case a => k_mem); (case b => k_mem); (case u => first | ktr_units | k_units); k_whole); (try dsimp only)) | (k_here; (with_reducible show wpAny _ _ (getMethod (Value.ref _) (PySem.Str.ofString "append") _) _ _ _); k_dflt (refine' listMethod_K ?N ?m PySem.F.slot_list_append PySem.F.type_list_append ?_; (case N => k_asm); (case m => k_mem))) | (k_here; (try dsimp only [List.cons_append, List.nil_append]); (with_reducible show wpAny _ _ (call (Value.builtin _) [Value.ref _, _]) _ _ _); k_dflt (refine' append_K ?k1 ?k2 ?k3 ?_ ?z; (case k1 => k_asm); (case k2 => k_asm); (case k3 => k_upd); (case z => ((simp only [List.size_toArray, Array.size_push, List.length_append, List.length_cons, List.length_nil, sizeLine_eq]); omega)); k_whole); intro _ _ N'; (simp only [List.push_toArray, List.cons_append, List.nil_append] at N')) | (k_here; k_dflt (refine' truthyL ?N ?m ?f ?e ?_; (case N => k_asm); (case m => k_mem); (case f => exact Nat.le_of_ble_eq_true rfl); (case e => first | exact (rfl : _ = true) | exact (rfl : _ = false))); intro _; (try dsimp only))); all_goals k_steps))
  all_goals (unfold Stop9; (rename News _ _ _ _ => nE); (rename Fr _ _ _ _ => fE); (rename Below _ _ _ _ => B'); (rename Frag.In _ _ => X'); (rename Top _ _ _ _ _ _ => T'))
  refine su2 (e0 := e2) (e1 := e1) (bs := bs) B' fE X' T' rfl ?h1 ?h2 nE hne h2 h1 ?_
  case h1 => ktr_room
  case h2 => ktr_units
  intro h9 tk9 c9 F9 N9
  clear nE fE
  (k_steps; repeat' (refine Stop9.inn ?_; (first | ((with_reducible show wpAny _ _ (compareOp CmpOp.Lt _ _) _ _ _); k_here; k_dflt (refine' lt3N ?N ?a ?b ?u ?_; (case N => k_asm); (case a => k_mem); (case b => k_mem); (case u => first | ktr_units | k_units); k_whole); (try dsimp only)) | (k_here; (with_reducible show wpAny _ _ (getMethod (Value.ref _) (PySem.Str.ofString "append") _) _ _ _); k_dflt (refine' listMethod_K ?N ?m PySem.F.slot_list_append PySem.F.type_list_append ?_; (case N => k_asm); (case m => k_mem))) | (k_here; (try dsimp only [List.cons_append, List.nil_append]); (with_reducible show wpAny _ _ (call (Value.builtin _) [Value.ref _, _]) _ _ _); k_dflt (refine' append_K ?k1 ?k2 ?k3 ?_ ?z; (case k1 => k_asm); (case k2 => k_asm); (case k3 => k_upd); (case z => ((simp only [List.size_toArray, Array.size_push, List.length_append, List.length_cons, List.length_nil, sizeLine_eq]); omega)); k_whole); intro _ _ N'; (simp only [List.push_toArray, List.cons_append, List.nil_append] at N')) | (k_here; k_dflt (refine' truthyL ?N ?m ?f ?e ?_; (case N => k_asm); (case m => k_mem); (case f => exact Nat.le_of_ble_eq_true rfl); (case e => first | exact (rfl : _ = true) | exact (rfl : _ = false))); intro _; (try dsimp only))); all_goals k_steps))
  (rename News _ _ _ _ => nE)
  (rename Fr _ _ _ _ => fE)
  exact ret _ _ _ fE nE
theorem pop4 {bs : List (Addr × Obj)} {hp : Nat} {c : Nat} {e0 e1 e2 e3 : Itm3}
   (B : Below A₀ base outer h₀) (F : Fr h₀ L s.heap m) (X : (KY w.params).In h₀) (T : Top pg lz mean mg mb h₀) (hk : cs.kind = .function)
   (hdp : dp + 50 ≤ 700) (hun : un + 300 ≤ 4000) (N : News h₀ L s.heap ((hp, listOf (vals [e0, e1, e2, e3]) c) :: bs)) (hne : ∀ p ∈ bs, p.1 ≠ hp) (h0 : Has3 bs e0) (h1 : Has3 bs e1) (h2 : Has3 bs e2) (h3 : Has3 bs e3)
   (ret : ∀ (r : Itm3 × List Itm3), hpop [e0, e1, e2, e3] = some r → ∀ (h' : Heap) (tk' c' : Nat), Fr h₀ L h' m → News h₀ L h' ((hp, listOf (vals r.2) c') :: bs) → Q r.1.1 { s with heap := h', toks := tk' }) :
   wpAny (model PySem.Challenge.rw_nq0264_01.prog w) (ktrTop dp un gd cn cs L a ccd cl outer) (call (.ref 109) [.ref hp]) Q E s := by
  have st0 : ∀ M A a b Q E s, Nonempty (StopP (wpAny M A (compareOp CmpOp.Lt (Value.ref a) (Value.ref b)) Q E s)) := by intros; exact StopP.mk
  have st1 : ∀ M A a z Q E s, Nonempty (StopP (wpAny M A (getMethod (Value.ref a) (PySem.Str.ofString "append") z) Q E s)) := by intros; exact StopP.mk
  have st2 : ∀ M A as ks Q E s, Nonempty (StopP (wpAny M A (call (Value.builtin "list.append") as ks) Q E s)) := by intros; exact StopP.mk
  have st3 : ∀ M A a Q E s, Nonempty (StopP (wpAny M A (PySem.truthy (Value.ref a)) Q E s)) := by intros; exact StopP.mk
  have st4 : ∀ M A a as ks Q E s, Nonempty (StopP (wpAny M A (call (Value.ref a) as ks) Q E s)) := by intros; exact StopP.mk
  w_on
  replace ret := ret _ rfl
  have N2 : News h₀ L s.heap ((hp, listOf #[e0.1, e1.1, e2.1, e3.1] c) :: bs) := N
  clear N
  refine wpAny_call ?_
  k_dflt cell_enter
  (k_steps; repeat' (refine Stop9.inn ?_; (first | ((with_reducible show wpAny _ _ (compareOp CmpOp.Lt _ _) _ _ _); k_here; k_dflt (refine' lt3N ?N ?a ?b ?u ?_; (case N => k_asm); (case a => k_mem); (case b => k_mem); (case u => first | ktr_units | k_units); k_whole); (try dsimp only)) | (k_here; (with_reducible show wpAny _ _ (getMethod (Value.ref _) (PySem.Str.ofString "append") _) _ _ _); k_dflt (refine' listMethod_K ?N ?m PySem.F.slot_list_append PySem.F.type_list_append ?_; (case N => k_asm); (case m => k_mem))) | (k_here; (try dsimp only [List.cons_append, List.nil_append]); (with_reducible show wpAny _ _ (call (Value.builtin _) [Value.ref _, _]) _ _ _); k_dflt (refine' append_K ?k1 ?k2 ?k3 ?_ ?z; (case k1 => k_asm); (case k2 => k_asm); (case k3 => k_upd); (case z => ((simp only [List.size_toArray, Array.size_push, List.length_append, List.length_cons, List.length_nil, sizeLine_eq]); omega)); k_whole); intro _ _ N'; (simp only [List.push_toArray, List.cons_append, List.nil_append] at N')) | (k_here; k_dflt (refine' truthyL ?N ?m ?f ?e ?_; (case N => k_asm); (case m => k_mem); (case f => exact Nat.le_of_ble_eq_true rfl); (case e => first | exact (rfl : _ = true) | exact (rfl : _ = false))); intro _; (try dsimp only))); all_goals k_steps))
  all_goals (unfold Stop9; (rename News _ _ _ _ => nE); (rename Fr _ _ _ _ => fE); (rename Below _ _ _ _ => B'); (rename Frag.In _ _ => X'); (rename Top _ _ _ _ _ _ => T'))
  refine su3 (e0 := e3) (e1 := e1) (e2 := e2) (bs := bs) B' fE X' T' rfl ?h1 ?h2 nE hne h3 h1 h2 ?_
  case h1 => ktr_room
  case h2 => ktr_units
  intro h9 tk9 c9 F9 N9
  clear nE fE
  (k_steps; repeat' (refine Stop9.inn ?_; (first | ((with_reducible show wpAny _ _ (compareOp CmpOp.Lt _ _) _ _ _); k_here; k_dflt (refine' lt3N ?N ?a ?b ?u ?_; (case N => k_asm); (case a => k_mem); (case b => k_mem); (case u => first | ktr_units | k_units); k_whole); (try dsimp only)) | (k_here; (with_reducible show wpAny _ _ (getMethod (Value.ref _) (PySem.Str.ofString "append") _) _ _ _); k_dflt (refine' listMethod_K ?N ?m PySem.F.slot_list_append PySem.F.type_list_append ?_; (case N => k_asm); (case m => k_mem))) | (k_here; (try dsimp only [List.cons_append, List.nil_append]); (with_reducible show wpAny _ _ (call (Value.builtin _) [Value.ref _, _]) _ _ _); k_dflt (refine' append_K ?k1 ?k2 ?k3 ?_ ?z; (case k1 => k_asm); (case k2 => k_asm); (case k3 => k_upd); (case z => ((simp only [List.size_toArray, Array.size_push, List.length_append, List.length_cons, List.length_nil, sizeLine_eq]); omega)); k_whole); intro _ _ N'; (simp only [List.push_toArray, List.cons_append, List.nil_append] at N')) | (k_here; k_dflt (refine' truthyL ?N ?m ?f ?e ?_; (case N => k_asm); (case m => k_mem); (case f => exact Nat.le_of_ble_eq_true rfl); (case e => first | exact (rfl : _ = true) | exact (rfl : _ = false))); intro _; (try dsimp only))); all_goals k_steps))
  (rename News _ _ _ _ => nE)
  (rename Fr _ _ _ _ => fE)
  exact ret _ _ _ fE nE
end
end

section
section
variable {w : World} {pg : Program} {lz : List Str} {mean : ExcName → Option Value} {mg mb : Str → Option Value} {dp un : Nat} {gd : Option (List Code)} {cn : Str} {cs : Scope} {a : Addr} {ccd : Value} {cl : List (Str × Addr)} {outer : List Env} {A₀ : Around} {base h₀ : Heap} {L : Addr} {m : Str → Option Value} {s : Shared} {Q E : Value → Shared → Prop}
theorem heappush_ {bs : List (Addr × Obj)} {hp : Nat} {c : Nat} {x : Itm3} {H : List Itm3}
   (B : Below A₀ base outer h₀) (F : Fr h₀ L s.heap m) (X : (KY w.params).In h₀) (T : Top pg lz mean mg mb h₀) (hk : cs.kind = .function)
   (hdp : dp + 50 ≤ 700) (hun : un + 300 ≤ 4000) (N : News h₀ L s.heap ((hp, listOf (vals H) c) :: bs)) (hne : ∀ p ∈ bs, p.1 ≠ hp) (hH : ∀ e ∈ H, Has3 bs e) (hx : Has3 bs x) (hl : H.length ≤ 3)
   (ret : ∀ (h' : Heap) (tk' c' : Nat), Fr h₀ L h' m → News h₀ L h' ((hp, listOf (vals (hpush H x)) c') :: bs) → Q .none { s with heap := h', toks := tk' }) :
   wpAny (model PySem.Challenge.rw_nq0264_01.prog w) (ktrTop dp un gd cn cs L a ccd cl outer) (call (.ref 102) [.ref hp, x.1]) Q E s := by
  rcases shape3 H hl with rfl | ⟨e0, rfl⟩ | ⟨e0, e1, rfl⟩ | ⟨e0, e1, e2, rfl⟩
  · exact push0 B F X T hk hdp hun N hne hx ret
  · exact push1 B F X T hk hdp hun N hne (hH _ (.head _)) hx ret
  · exact push2 B F X T hk hdp hun N hne (hH _ (.head _)) (hH _ (.tail _ (.head _))) hx ret
  · exact push3 B F X T hk hdp hun N hne (hH _ (.head _)) (hH _ (.tail _ (.head _))) (hH _ (.tail _ (.tail _ (.head _)))) hx ret
theorem heappop_ {bs : List (Addr × Obj)} {hp : Nat} {c : Nat} {H : List Itm3}
   (B : Below A₀ base outer h₀) (F : Fr h₀ L s.heap m) (X : (KY w.params).In h₀) (T : Top pg lz mean mg mb h₀) (hk : cs.kind = .function)
   (hdp : dp + 50 ≤ 700) (hun : un + 300 ≤ 4000) (N : News h₀ L s.heap ((hp, listOf (vals H) c) :: bs)) (hne : ∀ p ∈ bs, p.1 ≠ hp) (hH : ∀ e ∈ H, Has3 bs e) (h1 : 1 ≤ H.length) (hl : H.length ≤ 4)
   (ret : ∀ (r : Itm3 × List Itm3), hpop H = some r → ∀ (h' : Heap) (tk' c' : Nat), Fr h₀ L h' m → News h₀ L h' ((hp, listOf (vals r.2) c') :: bs) → Q r.1.1 { s with heap := h', toks := tk' }) :
   wpAny (model PySem.Challenge.rw_nq0264_01.prog w) (ktrTop dp un gd cn cs L a ccd cl outer) (call (.ref 109) [.ref hp]) Q E s := by
  rcases shape4 H h1 hl with ⟨e0, rfl⟩ | ⟨e0, e1, rfl⟩ | ⟨e0, e1, e2, rfl⟩ | ⟨e0, e1, e2, e3, rfl⟩
  · exact pop1 B F X T hk hdp hun N hne (hH _ (.head _)) ret
  · exact pop2 B F X T hk hdp hun N hne (hH _ (.head _)) (hH _ (.tail _ (.head _))) ret
  · exact pop3 B F X T hk hdp hun N hne (hH _ (.head _)) (hH _ (.tail _ (.head _))) (hH _ (.tail _ (.tail _ (.head _)))) ret
  · exact pop4 B F X T hk hdp hun N hne (hH _ (.head _)) (hH _ (.tail _ (.head _))) (hH _ (.tail _ (.tail _ (.head _)))) (hH _ (.tail _ (.tail _ (.tail _ (.head _))))) ret
end
end

section
section
variable {w : World} {pg : Program} {lz : List Str} {mean : ExcName → Option Value} {mg mb : Str → Option Value} {dp un : Nat} {gd : Option (List Code)} {cn : Str} {cs : Scope} {a : Addr} {ccd : Value} {cl : List (Str × Addr)} {outer : List Env} {A₀ : Around} {base h₀ : Heap} {L : Addr} {m : Str → Option Value} {s : Shared} {Q E : Value → Shared → Prop}

theorem taken_ {news : List (Addr × Obj)} {ra : Nat} {rv : List Value} {xs : List Int} {c : Nat}
   (B : Below A₀ base outer h₀) (F : Fr h₀ L s.heap m) (X : (KY w.params).In h₀) (T : Top pg lz mean mg mb h₀) (hk : cs.kind = .function)
   (hdp : dp + 200 ≤ 700) (hun : un + 1000 ≤ 4000) (N : News h₀ L s.heap ((ra, listOf rv.toArray c) :: news)) (hD : DatAll [] rv ((repsT xs).map strD)) (hl : xs.length ≤ 4) (hz : rv.toArray.size ≤ 1000)
   (ret : ∀ (l : Nat) (h' : Heap) (tk' : Nat) (vs : List Value) (add : List (Addr × Obj)) (c' : Nat), Fr h₀ L h' m → News h₀ L h' ((l, listOf vs.toArray c') :: (add ++ (ra, listOf rv.toArray c) :: news)) → DatAll (add ++ (ra, listOf rv.toArray c) :: news) vs ((kpopAll xs.length (kheap xs)).map kD) → Q (.ref l) { s with heap := h', toks := tk' }) :
   wpAny (model PySem.Challenge.rw_nq0264_01.prog w) (ktrTop dp un gd cn cs L a ccd cl outer) (call (.ref 855) [.ref ra]) Q E s := by
  have st0 : ∀ M A a Q E s, Nonempty (StopP (wpAny M A (pyIter (Value.ref a)) Q E s)) := by intros; exact StopP.mk
  have st1 : ∀ M A e g c p env Q E s, Nonempty (StopP (wpAny M A (eval (Expr.ListComp e g c p) env) Q E s)) := by intros; exact StopP.mk
  have st2 : ∀ M A as ks Q E s, Nonempty (StopP (wpAny M A (call (Value.builtin "len") as ks) Q E s)) := by intros; exact StopP.mk
  have st3 : ∀ M A x y a i u Q E s, Nonempty (StopP (wpAny M A (subscriptTail x y (Value.ref a) (Value.int i u)) Q E s)) := by intros; exact StopP.mk
  have st4 : ∀ M A as ks Q E s, Nonempty (StopP (wpAny M A (call (Value.ref 88) as ks) Q E s)) := by intros; exact StopP.mk
  have st5 : ∀ M A as ks Q E s, Nonempty (StopP (wpAny M A (call (Value.ref 95) as ks) Q E s)) := by intros; exact StopP.mk
  have st6 : ∀ M A as ks Q E s, Nonempty (StopP (wpAny M A (call (Value.ref 109) as ks) Q E s)) := by intros; exact StopP.mk
  have st7 : ∀ M A as ks Q E s, Nonempty (StopP (wpAny M A (call (Value.ref 102) as ks) Q E s)) := by intros; exact StopP.mk
  w_on
  refine wpAny_call ?_
  (refine' code_defC ?k1 ?k2 ?k3 ?k4 ?k5 ?kA ?kF ?kK ?k6 ?k7 ?k8 ?k9 ?kB ?kD ?_ ?c2 ?c3 ?c4; (case kA => exact rfl); (case kF => exact rfl); (case kK => assumption); (case k1 => k_asm); (case k2 => k_asm); (case k3 => k_asm); (case k4 => k_asm); (case k5 => k_asm); (case k6 => k_is); (case k7 => k_is); (case k8 => ktr_room); (case k9 => first | exact BindsTo.of_eq rfl | exact binds_K (by k_in) rfl (by k_is) rfl rfl rfl | fail "k_enter: no rule for these arguments"); (case kB => exact rfl); (case kD => decide +kernel); (case c2 => exact rfl); (case c3 => exact rfl); (case c4 => exact rfl); k_whole; intro g' L' h' tk' cells' FG' F' N' Y' B' X' T' l1; k_cells Y'; (try simp only [List.cons_append, List.nil_append] at N'); (try dsimp only); (try k_lift B'); (try k_fold))
  have hne1 : ∀ p ∈ news, p.1 ≠ L' + 1 := fun p hp => Nat.ne_of_lt (Nat.lt_succ_of_lt (l1 p (.tail _ hp)))
  have hne2 : ra ≠ L' + 1 := Nat.ne_of_lt (Nat.lt_succ_of_lt (l1 _ (.head _)))
  have F2 : Fr g' L' h' (fun y => if y = Str.ofString "replies" then some (Value.ref ra) else none) := F'
  clear F'
  (k_steps; repeat' (refine Stop9.inn ?_; (first | ((with_reducible show wpAny _ _ (call (Value.builtin "len") _ _) _ _ _); k_here; (try dsimp only [List.cons_append, List.nil_append]); k_dflt (refine' lenL ?zN ?zm ?zf ?_; (case zN => k_asm); (case zm => k_mem); (case zf => assumption)); intro t9 k9; (try dsimp only)) | (k_here; (with_reducible show wpAny _ _ (subscriptTail _ _ (Value.ref _) (Value.int _ _)) _ _ _); k_dflt (refine' itemL ?zN ?zm ?za ?zb ?zx ?_ ?zs; (case zN => k_asm); (case zm => k_mem); (case za => first | with_reducible exact tn0 _ | with_reducible exact Int.le_add_one (tn0 _) | omega); (case zb => first | with_reducible exact tlt0 hi hl | with_reducible exact tlt hi hl | omega); (case zx => assumption); (case zs => with_unfolding_all rfl); k_whole)) | (k_here; k_dflt ((with_reducible show wpAny _ _ (call (Value.ref 88) _) _ _ _); (refine' parse229_ ?zB ?zF ?zX ?zT ?zhk ?zh1 ?zh2 ?zN ?zc1 ?zc2 ?zc3 ?zc4 ?zc5 ?zc6 ?zc7 ?zc8 ?zc9 ?_; (case zB => k_asm); (case zF => k_asm); (case zX => k_asm); (case zT => k_asm); (case zhk => exact rfl); (case zN => k_asm); (case zh1 => ktr_room); (case zh2 => ktr_units); (case zc1 => assumption); (case zc2 => assumption); (case zc3 => assumption); (case zc4 => assumption); (case zc5 => assumption); (case zc6 => assumption); (case zc7 => assumption); (case zc8 => assumption); (case zc9 => assumption); k_whole; intro T9 D9 h9 tk9 o9 t1 t2 F9 N9 l8 l9)); (try dsimp only)) | (k_here; k_dflt ((with_reducible show wpAny _ _ (call (Value.ref 95) _) _ _ _); (refine' parse257_ ?zB ?zF ?zX ?zT ?zhk ?zh1 ?zh2 ?zN ?zc1 ?_; (case zB => k_asm); (case zF => k_asm); (case zX => k_asm); (case zT => k_asm); (case zhk => exact rfl); (case zN => k_asm); (case zh1 => ktr_room); (case zh2 => ktr_units); (case zc1 => assumption); k_whole; intro h9 tk9 t9 F9 N9)); (try dsimp only))); all_goals k_steps))
  unfold Stop9
  (rename News _ _ _ _ => nE)
  (rename Fr _ _ _ _ => fE)
  (rename IsRange _ _ _ _ _ _ _ _ => hR)
  obtain ⟨hp, hpe⟩ := nm_fst nE
  subst hpe
  obtain ⟨oc, oce⟩ := nm_snd nE
  subst oce
  (rename _ ∧ _ ∧ AllLt hp news => lt2)
  have hrv : rv.toArray.size = 2 * xs.length := by rw [List.size_toArray, hD.length, List.length_map, repsT_len]
  rw [hrv] at hR
  have hsm := rsmall ⟨xs.length, Nat.lt_succ_of_le hl⟩
  have hsi := rsize ⟨xs.length, Nat.lt_succ_of_le hl⟩
  dsimp only at hsm hsi
  refine krs_iter (n := xs.length) rfl hR hsm hsi fE nE ?_
  intro I hI9
  refine krs_ind (TJ hp ra I ((L' + 1, oc) :: (ra, listOf rv.toArray c) :: news) xs) ?fin ?step _ 0 _ _ (Nat.add_zero _) ?init
  case init => exact ⟨[], 0, [], rfl, rfl, (fun _ h => by cases h), rfl, rfl, (fun _ h => by cases h)⟩
  case fin =>
    clear nE fE
    rintro m₁ led₁ ⟨H, c', add, rfl, hH1, hH2, hH3, hm1, hadd⟩ h tk F1 N1
    obtain ⟨m₂, rfl⟩ := ex_map1 hm1
    dsimp only [envOfC] at F1 N1
    have hnb : ∀ p ∈ add ++ (L' + 1, oc) :: (ra, listOf rv.toArray c) :: news, p.1 ≠ hp := by
      intro p hp'
      rcases List.mem_append.mp hp' with hp' | hp'
      · exact (hadd p hp').1
      · rcases List.mem_cons.mp hp' with rfl | hp'
        · exact Nat.ne_of_lt lt2.1
        · rcases List.mem_cons.mp hp' with rfl | hp'
          · exact Nat.ne_of_lt lt2.2.1
          · exact Nat.ne_of_lt (kst_ltOf lt2.2.2 p hp')
    have mc : (L' + 1, oc) ∈ add ++ (L' + 1, oc) :: (ra, listOf rv.toArray c) :: news := List.mem_append.mpr (.inr (.head _))
    have mr : (ra, listOf rv.toArray c) ∈ add ++ (L' + 1, oc) :: (ra, listOf rv.toArray c) :: news := List.mem_append.mpr (.inr (.tail _ (.head _)))
    have hH2' : ∀ e ∈ H, Has3 (add ++ (L' + 1, oc) :: (ra, listOf rv.toArray c) :: news) e := fun e he => (hH2 e he).mono fun p hp => List.mem_append.mpr (.inl hp)
    have hfull : ∀ p ∈ (ra, listOf rv.toArray c) :: news, p ∈ add ++ (L' + 1, oc) :: (ra, listOf rv.toArray c) :: news := fun p hp => List.mem_append.mpr (.inr (.tail _ hp))
    generalize hb0 : add ++ (L' + 1, oc) :: (ra, listOf rv.toArray c) :: news = b0 at N1 hnb mc mr hH2' hfull
    have N2 := news_sub (l' := (L' + 1, oc) :: (ra, listOf rv.toArray c) :: (hp, listOf (vals H) c') :: b0) N1 (sub_cons (.tail _ mc) (sub_cons (.tail _ mr) sub_refl))
    (k_steps; repeat' (refine Stop9.inn ?_; (first | ((with_reducible show wpAny _ _ (call (Value.builtin "len") _ _) _ _ _); k_here; (try dsimp only [List.cons_append, List.nil_append]); k_dflt (refine' lenL ?zN ?zm ?zf ?_; (case zN => k_asm); (case zm => k_mem); (case zf => assumption)); intro t9 k9; (try dsimp only)) | (k_here; (with_reducible show wpAny _ _ (subscriptTail _ _ (Value.ref _) (Value.int _ _)) _ _ _); k_dflt (refine' itemL ?zN ?zm ?za ?zb ?zx ?_ ?zs; (case zN => k_asm); (case zm => k_mem); (case za => first | with_reducible exact tn0 _ | with_reducible exact Int.le_add_one (tn0 _) | omega); (case zb => first | with_reducible exact tlt0 hi hl | with_reducible exact tlt hi hl | omega); (case zx => assumption); (case zs => with_unfolding_all rfl); k_whole)) | (k_here; k_dflt ((with_reducible show wpAny _ _ (call (Value.ref 88) _) _ _ _); (refine' parse229_ ?zB ?zF ?zX ?zT ?zhk ?zh1 ?zh2 ?zN ?zc1 ?zc2 ?zc3 ?zc4 ?zc5 ?zc6 ?zc7 ?zc8 ?zc9 ?_; (case zB => k_asm); (case zF => k_asm); (case zX => k_asm); (case zT => k_asm); (case zhk => exact rfl); (case zN => k_asm); (case zh1 => ktr_room); (case zh2 => ktr_units); (case zc1 => assumption); (case zc2 => assumption); (case zc3 => assumption); (case zc4 => assumption); (case zc5 => assumption); (case zc6 => assumption); (case zc7 => assumption); (case zc8 => assumption); (case zc9 => assumption); k_whole; intro T9 D9 h9 tk9 o9 t1 t2 F9 N9 l8 l9)); (try dsimp only)) | (k_here; k_dflt ((with_reducible show wpAny _ _ (call (Value.ref 95) _) _ _ _); (refine' parse257_ ?zB ?zF ?zX ?zT ?zhk ?zh1 ?zh2 ?zN ?zc1 ?_; (case zB => k_asm); (case zF => k_asm); (case zX => k_asm); (case zT => k_asm); (case zhk => exact rfl); (case zN => k_asm); (case zh1 => ktr_room); (case zh2 => ktr_units); (case zc1 => assumption); k_whole; intro h9 tk9 t9 F9 N9)); (try dsimp only))); all_goals k_steps))
    unfold Stop9
    (rename News _ _ _ _ => nE)
    (rename Fr _ _ _ _ => fE)
    refine ListComp_R (n := xs.length) fE (by with_unfolding_all rfl) (by decide) (by rfl) (by decide) (by rfl) ?_
    clear N1
    (k_steps; repeat' (refine Stop9.inn ?_; (first | ((with_reducible show wpAny _ _ (call (Value.builtin "len") _ _) _ _ _); k_here; (try dsimp only [List.cons_append, List.nil_append]); k_dflt (refine' lenL ?zN ?zm ?zf ?_; (case zN => k_asm); (case zm => k_mem); (case zf => assumption)); intro t9 k9; (try dsimp only)) | (k_here; (with_reducible show wpAny _ _ (subscriptTail _ _ (Value.ref _) (Value.int _ _)) _ _ _); k_dflt (refine' itemL ?zN ?zm ?za ?zb ?zx ?_ ?zs; (case zN => k_asm); (case zm => k_mem); (case za => first | with_reducible exact tn0 _ | with_reducible exact Int.le_add_one (tn0 _) | omega); (case zb => first | with_reducible exact tlt0 hi hl | with_reducible exact tlt hi hl | omega); (case zx => assumption); (case zs => with_unfolding_all rfl); k_whole)) | (k_here; k_dflt ((with_reducible show wpAny _ _ (call (Value.ref 88) _) _ _ _); (refine' parse229_ ?zB ?zF ?zX ?zT ?zhk ?zh1 ?zh2 ?zN ?zc1 ?zc2 ?zc3 ?zc4 ?zc5 ?zc6 ?zc7 ?zc8 ?zc9 ?_; (case zB => k_asm); (case zF => k_asm); (case zX => k_asm); (case zT => k_asm); (case zhk => exact rfl); (case zN => k_asm); (case zh1 => ktr_room); (case zh2 => ktr_units); (case zc1 => assumption); (case zc2 => assumption); (case zc3 => assumption); (case zc4 => assumption); (case zc5 => assumption); (case zc6 => assumption); (case zc7 => assumption); (case zc8 => assumption); (case zc9 => assumption); k_whole; intro T9 D9 h9 tk9 o9 t1 t2 F9 N9 l8 l9)); (try dsimp only)) | (k_here; k_dflt ((with_reducible show wpAny _ _ (call (Value.ref 95) _) _ _ _); (refine' parse257_ ?zB ?zF ?zX ?zT ?zhk ?zh1 ?zh2 ?zN ?zc1 ?_; (case zB => k_asm); (case zF => k_asm); (case zX => k_asm); (case zT => k_asm); (case zhk => exact rfl); (case zN => k_asm); (case zh1 => ktr_room); (case zh2 => ktr_units); (case zc1 => assumption); k_whole; intro h9 tk9 t9 F9 N9)); (try dsimp only))); all_goals k_steps))
    (rename News _ _ _ _ => nE)
    (rename Fr _ _ _ _ => fE)
    clear hR
    (rename IsRange _ _ _ _ _ _ _ _ => hR)
    rw [hrv] at hR
    refine ⟨_, 0, _, 2, _, _, _, (hp, listOf (vals H) c') :: b0, rfl, rfl, fE, news_sub nE (fun p hp => .tail _ (.tail _ hp)), hR, hsm, hsi, le16 hl (by decide), fun g => comp_ind (PJ9 hp b0 (kpopAll xs.length (kheap xs)) xs.length) ?cfin ?cstep xs.length 0 [] _ (Nat.add_zero _) ?cinit⟩
    case cinit =>
      refine ⟨H, c', [], rfl, hH1, hH2', .nil, ?_⟩
      rw [hH1, hH3, List.take_length]; rfl
    case cfin =>
      clear nE fE
      rintro ys led ⟨H₁, c₁, done, rfl, hlen, hHb, hDa, hk⟩
      have hH0 : H₁ = [] := List.eq_nil_of_length_eq_zero (Nat.add_right_cancel (hlen.trans (Nat.zero_add _).symm))
      subst hH0
      simp only [List.length_nil, kpopAll, List.append_nil] at hk
      subst hk
      unfold LCg.FinE
      intro D5 h5 tk5 F5 N5 o5
      (k_steps; repeat' (refine Stop9.inn ?_; (first | ((with_reducible show wpAny _ _ (call (Value.builtin "len") _ _) _ _ _); k_here; (try dsimp only [List.cons_append, List.nil_append]); k_dflt (refine' lenL ?zN ?zm ?zf ?_; (case zN => k_asm); (case zm => k_mem); (case zf => assumption)); intro t9 k9; (try dsimp only)) | (k_here; (with_reducible show wpAny _ _ (subscriptTail _ _ (Value.ref _) (Value.int _ _)) _ _ _); k_dflt (refine' itemL ?zN ?zm ?za ?zb ?zx ?_ ?zs; (case zN => k_asm); (case zm => k_mem); (case za => first | with_reducible exact tn0 _ | with_reducible exact Int.le_add_one (tn0 _) | omega); (case zb => first | with_reducible exact tlt0 hi hl | with_reducible exact tlt hi hl | omega); (case zx => assumption); (case zs => with_unfolding_all rfl); k_whole)) | (k_here; k_dflt ((with_reducible show wpAny _ _ (call (Value.ref 88) _) _ _ _); (refine' parse229_ ?zB ?zF ?zX ?zT ?zhk ?zh1 ?zh2 ?zN ?zc1 ?zc2 ?zc3 ?zc4 ?zc5 ?zc6 ?zc7 ?zc8 ?zc9 ?_; (case zB => k_asm); (case zF => k_asm); (case zX => k_asm); (case zT => k_asm); (case zhk => exact rfl); (case zN => k_asm); (case zh1 => ktr_room); (case zh2 => ktr_units); (case zc1 => assumption); (case zc2 => assumption); (case zc3 => assumption); (case zc4 => assumption); (case zc5 => assumption); (case zc6 => assumption); (case zc7 => assumption); (case zc8 => assumption); (case zc9 => assumption); k_whole; intro T9 D9 h9 tk9 o9 t1 t2 F9 N9 l8 l9)); (try dsimp only)) | (k_here; k_dflt ((with_reducible show wpAny _ _ (call (Value.ref 95) _) _ _ _); (refine' parse257_ ?zB ?zF ?zX ?zT ?zhk ?zh1 ?zh2 ?zN ?zc1 ?_; (case zB => k_asm); (case zF => k_asm); (case zX => k_asm); (case zT => k_asm); (case zhk => exact rfl); (case zN => k_asm); (case zh1 => ktr_room); (case zh2 => ktr_units); (case zc1 => assumption); k_whole; intro h9 tk9 t9 F9 N9)); (try dsimp only))); all_goals k_steps))
      (rename News _ _ _ _ => nE)
      (rename Fr _ _ _ _ => fE)
      refine ret D5 h5 tk5 ys ((hp, listOf (vals []) c₁) :: (add ++ [(L' + 1, oc)])) ys.length fE (news_sub nE fun p hp => ?_) (hDa.mono fun p hp => ?_)
      · rcases List.mem_cons.mp hp with rfl | hp
        · exact .head _
        · rw [← hb0]
          simp only [List.cons_append, List.append_assoc, List.nil_append] at hp
          exact .tail _ hp
      · rw [← hb0] at hp
        simp only [List.cons_append, List.append_assoc, List.nil_append]
        exact .tail _ hp
    case cstep =>
      clear nE fE
      rintro i ys led hi ⟨H₁, c₁, done, rfl, hlen, hHb, hDa, hk⟩ v I5 oI5 C5 oC5 D5 m5 h5 tk5 E5 _ hC5 hx5 F5 N5 off5 ne5
      have N6 := news_sub (l' := (L' + 1, oc) :: (I5, oI5) :: (C5, oC5) :: (D5, LCg.lst ys) :: (hp, listOf (vals H₁) c₁) :: b0) N5 (by
        intro p hp
        rcases List.mem_cons.mp hp with rfl | hp
        · exact .tail _ (.tail _ (.tail _ (.tail _ mc)))
        · exact hp)
      clear N5
      (k_steps; repeat' (refine Stop9.inn ?_; (first | ((with_reducible show wpAny _ _ (call (Value.builtin "len") _ _) _ _ _); k_here; (try dsimp only [List.cons_append, List.nil_append]); k_dflt (refine' lenL ?zN ?zm ?zf ?_; (case zN => k_asm); (case zm => k_mem); (case zf => assumption)); intro t9 k9; (try dsimp only)) | (k_here; (with_reducible show wpAny _ _ (subscriptTail _ _ (Value.ref _) (Value.int _ _)) _ _ _); k_dflt (refine' itemL ?zN ?zm ?za ?zb ?zx ?_ ?zs; (case zN => k_asm); (case zm => k_mem); (case za => first | with_reducible exact tn0 _ | with_reducible exact Int.le_add_one (tn0 _) | omega); (case zb => first | with_reducible exact tlt0 hi hl | with_reducible exact tlt hi hl | omega); (case zx => assumption); (case zs => with_unfolding_all rfl); k_whole)) | (k_here; k_dflt ((with_reducible show wpAny _ _ (call (Value.ref 88) _) _ _ _); (refine' parse229_ ?zB ?zF ?zX ?zT ?zhk ?zh1 ?zh2 ?zN ?zc1 ?zc2 ?zc3 ?zc4 ?zc5 ?zc6 ?zc7 ?zc8 ?zc9 ?_; (case zB => k_asm); (case zF => k_asm); (case zX => k_asm); (case zT => k_asm); (case zhk => exact rfl); (case zN => k_asm); (case zh1 => ktr_room); (case zh2 => ktr_units); (case zc1 => assumption); (case zc2 => assumption); (case zc3 => assumption); (case zc4 => assumption); (case zc5 => assumption); (case zc6 => assumption); (case zc7 => assumption); (case zc8 => assumption); (case zc9 => assumption); k_whole; intro T9 D9 h9 tk9 o9 t1 t2 F9 N9 l8 l9)); (try dsimp only)) | (k_here; k_dflt ((with_reducible show wpAny _ _ (call (Value.ref 95) _) _ _ _); (refine' parse257_ ?zB ?zF ?zX ?zT ?zhk ?zh1 ?zh2 ?zN ?zc1 ?_; (case zB => k_asm); (case zF => k_asm); (case zX => k_asm); (case zT => k_asm); (case zhk => exact rfl); (case zN => k_asm); (case zh1 => ktr_room); (case zh2 => ktr_units); (case zc1 => assumption); k_whole; intro h9 tk9 t9 F9 N9)); (try dsimp only))); all_goals k_steps))
      unfold Stop9
      (rename News _ _ _ _ => nE)
      (rename Fr _ _ _ _ => fE)
      obtain ⟨⟨o1, o2, o3⟩, off6⟩ := off5
      dsimp only at o1 o2 o3
      have off7 := off6.mem
      have nE1 : News g' L' h5 ((hp, listOf (vals H₁) c₁) :: (I5, oI5) :: (C5, oC5) :: (D5, LCg.lst ys) :: b0) := news_sub nE (by repeat' (first | with_reducible exact sub_refl | with_reducible refine sub_cons ?_ ?_ | with_reducible refine sub_tail ?_ | with_reducible assumption | with_reducible exact List.mem_cons_self | with_reducible refine List.mem_cons_of_mem _ ?_))
      refine heappop_ (H := H₁) B' fE X' T' rfl ?h1 ?h2 nE1 ?hne (fun e he => (hHb e he).mono fun p hp => .tail _ (.tail _ (.tail _ hp))) (pops1 hlen hi) (Nat.le_trans (Nat.le.intro hlen) hl) ?_
      case h1 => ktr_room
      case h2 => ktr_units
      case hne =>
        intro p hp'
        simp only [List.mem_cons] at hp'
        rcases hp' with rfl | rfl | rfl | hp'
        · exact Ne.symm o1
        · exact Ne.symm o2
        · exact Ne.symm o3
        · exact hnb p hp'
      intro r hr h9 tk9 c9 F9 N9
      obtain ⟨q1, q2, q3⟩ := hpop_mem H₁ r hr
      refine ⟨h9, tk9, (hp, listOf (vals r.2) c9) :: b0, rfl, F9, news_sub N9 (by repeat' (first | with_reducible exact sub_refl | with_reducible refine sub_cons ?_ ?_ | with_reducible refine sub_tail ?_ | with_reducible assumption | with_reducible exact List.mem_cons_self | with_reducible refine List.mem_cons_of_mem _ ?_)), ⟨⟨o1, o2, o3⟩, off6⟩, True.intro, r.2, c9, done ++ [r.1.2], rfl, pops2 hlen q3, fun e he => hHb e (q2 e he), ?_, ?_⟩
      · rw [List.map_append]
        obtain ⟨ar, tr, ur, vr, cr, er1, er2⟩ := hHb _ q1
        rw [er1]
        exact DatAll.append hDa (.one (DatIn.tuple (vs := [.int r.1.2.1 tr, .str (mkS r.1.2.2) ur, .str hereS vr]) er2 (.cons (.int _ _) (.cons (.str _ _) (.cons (.str _ _) .nil)))))
      · rw [← hk, q3]
        simp only [kpopAll, hpop_keys H₁ r hr, List.append_assoc, List.cons_append, List.nil_append]
  case step =>
    clear nE fE
    rintro i m₁ led₁ hi ⟨H, c', add, rfl, hH1, hH2, hH3, hm1, hadd⟩ t h tk F1 N1
    obtain ⟨x, hx⟩ : ∃ x, xs[i]? = some x := ⟨_, List.getElem?_eq_getElem hi⟩
    obtain ⟨y0, y1⟩ := repsT_get xs i x hx
    rw [r257_eq] at y0
    rw [r229_eq] at y1
    obtain ⟨s0, z0⟩ := rv_get hD y0
    obtain ⟨s1, z1⟩ := rv_get hD y1
    rw [tn2 i] at z0
    rw [tn3 i] at z1
    obtain ⟨m₂, rfl⟩ := ex_map1 hm1
    clear y0 y1
    dsimp only [envOfC] at F1 N1
    have c1 : 40 ∉ rep (x % 3).toNat [97] := by
      intro q
      obtain ⟨l, hl1, hl2⟩ := List.mem_flatten.mp q
      rw [(List.mem_replicate.mp hl1).2] at hl2
      simp at hl2
    have c2 : mrk x ≠ 41 := by obtain ⟨j, e⟩ := mrk_fin x; rw [e]; exact mk41 j
    obtain ⟨p, ep⟩ := fin_of 64 (x % 64) (em0 x (by decide)) (em1 x (by decide))
    have c3 : 41 ∉ dig (x % 64) := by rw [ep]; exact dig41 p
    have c4 : 0 ≤ x % 64 := em0 x (by decide)
    have c5 : x % 64 < 10 ^ 10 := Int.lt_of_lt_of_le (em1 x (by decide)) (by decide)
    have c6 : (rep (x % 3).toNat [97]).length ≤ 10 := by rw [rep_len]; exact Nat.le_trans (Nat.mul_le_mul_right _ (emN x 2 (by decide) (by decide))) (by decide)
    have c7 : (rep (x % 2).toNat [98, 41]).length ≤ 10 := by rw [rep_len]; exact Nat.le_trans (Nat.mul_le_mul_right _ (emN x 1 (by decide) (by decide))) (by decide)
    have c8 : (dig (x % 64)).length ≤ 10 := Nat.le_trans (dig_len x) (by decide)
    have c9 : Txt.split (mkS (mrk x :: mrk x :: mrk x :: (dig (x % 64) ++ [mrk x]))) (mkS [mrk x]) = [mkS [], mkS [], mkS [], mkS (dig (x % 64)), mkS []] := by
      obtain ⟨j, e⟩ := mrk_fin x
      rw [e, ep]; exact split5 j p
    have d1 : (tail257 x).length ≤ 1000 := by
      unfold tail257
      rw [List.length_append, List.length_append, rep_len]
      exact Nat.le_trans (Nat.add_le_add (Nat.add_le_add_right (Nat.le_trans (rp_len 34 [34, 34] 2 (by decide) (by decide) (fld x)) (Nat.mul_le_mul_left 2 (fld_len x))) _) (Nat.mul_le_mul_right _ (emN x 1 (by decide) (by decide)))) (by decide)
    have hpI : @LT.lt Nat _ hp I := hI9 (hp, _) (.head _)
    have hh3 : H.length ≤ 3 := by rw [hH1]; exact Nat.le_of_lt_succ (Nat.lt_of_lt_of_le hi hl)
    generalize htl : add ++ (L' + 1, oc) :: (ra, listOf rv.toArray c) :: news = tl at N1
    have N2 := news_sub (l' := (L' + 1, oc) :: (ra, listOf rv.toArray c) :: (I, krsIt (0 + ((i + 1 : Nat) : Int) * 2) ((xs.length : Int) - ((i + 1 : Nat) : Int)) 2) :: (hp, listOf (vals H) c') :: tl) N1 (sub_cons (.tail _ (.tail _ (htl ▸ List.mem_append.mpr (.inr (.head _))))) (sub_cons (.tail _ (.tail _ (htl ▸ List.mem_append.mpr (.inr (.tail _ (.head _)))))) (sub_cons (.head _) (sub_cons (.tail _ (.head _)) (sub_tail (sub_tail sub_refl))))))
    clear N1
    (k_steps; repeat' (refine Stop9.inn ?_; (first | ((with_reducible show wpAny _ _ (call (Value.builtin "len") _ _) _ _ _); k_here; (try dsimp only [List.cons_append, List.nil_append]); k_dflt (refine' lenL ?zN ?zm ?zf ?_; (case zN => k_asm); (case zm => k_mem); (case zf => assumption)); intro t9 k9; (try dsimp only)) | (k_here; (with_reducible show wpAny _ _ (subscriptTail _ _ (Value.ref _) (Value.int _ _)) _ _ _); k_dflt (refine' itemL ?zN ?zm ?za ?zb ?zx ?_ ?zs; (case zN => k_asm); (case zm => k_mem); (case za => first | with_reducible exact tn0 _ | with_reducible exact Int.le_add_one (tn0 _) | omega); (case zb => first | with_reducible exact tlt0 hi hl | with_reducible exact tlt hi hl | omega); (case zx => assumption); (case zs => with_unfolding_all rfl); k_whole)) | (k_here; k_dflt ((with_reducible show wpAny _ _ (call (Value.ref 88) _) _ _ _); (refine' parse229_ ?zB ?zF ?zX ?zT ?zhk ?zh1 ?zh2 ?zN ?zc1 ?zc2 ?zc3 ?zc4 ?zc5 ?zc6 ?zc7 ?zc8 ?zc9 ?_; (case zB => k_asm); (case zF => k_asm); (case zX => k_asm); (case zT => k_asm); (case zhk => exact rfl); (case zN => k_asm); (case zh1 => ktr_room); (case zh2 => ktr_units); (case zc1 => assumption); (case zc2 => assumption); (case zc3 => assumption); (case zc4 => assumption); (case zc5 => assumption); (case zc6 => assumption); (case zc7 => assumption); (case zc8 => assumption); (case zc9 => assumption); k_whole; intro T9 D9 h9 tk9 o9 t1 t2 F9 N9 l8 l9)); (try dsimp only)) | (k_here; k_dflt ((with_reducible show wpAny _ _ (call (Value.ref 95) _) _ _ _); (refine' parse257_ ?zB ?zF ?zX ?zT ?zhk ?zh1 ?zh2 ?zN ?zc1 ?_; (case zB => k_asm); (case zF => k_asm); (case zX => k_asm); (case zT => k_asm); (case zhk => exact rfl); (case zN => k_asm); (case zh1 => ktr_room); (case zh2 => ktr_units); (case zc1 => assumption); k_whole; intro h9 tk9 t9 F9 N9)); (try dsimp only))); all_goals k_steps))
    unfold Stop9
    (rename News _ _ _ _ => nE)
    (rename Fr _ _ _ _ => fE)
    (rename _ ∧ _ ∧ _ ∧ _ ∧ _ ∧ _ ∧ _ ∧ AllLt _ _ => lD)
    rw [p257_eq] at nE
    (rename _ ∧ _ ∧ _ ∧ _ ∧ AllLt _ _ => lP)
    (rename ∀ q ∈ _ :: _, _ < _ => l9)
    have bt : ∀ p ∈ tl, p.1 ≠ hp ∧ p.1 ≠ I := by
      intro p hp'
      rw [← htl] at hp'
      rcases List.mem_append.mp hp' with hp' | hp'
      · exact hadd p hp'
      · have hlt : @LT.lt Nat _ p.1 hp := by
          rcases List.mem_cons.mp hp' with rfl | hp'
          · exact lt2.1
          · rcases List.mem_cons.mp hp' with rfl | hp'
            · exact lt2.2.1
            · exact kst_ltOf lt2.2.2 p hp'
        exact ⟨Nat.ne_of_lt hlt, Nat.ne_of_lt (Nat.lt_trans hlt hpI)⟩
    have n1 := ne_cls nE (.head _) (.tail _ (.tail _ (.tail _ (.tail _ (.tail _ (.tail _ (.tail _ (.head _)))))))) (show Value.type "tuple" ≠ Value.type "list" by decide)
    have n2 := ne_cls nE (.tail _ (.head _)) (.tail _ (.tail _ (.tail _ (.tail _ (.tail _ (.tail _ (.tail _ (.head _)))))))) (show Value.type "tuple" ≠ Value.type "list" by decide)
    have n3 := ne_cls nE (.tail _ (.tail _ (.tail _ (.head _)))) (.tail _ (.tail _ (.tail _ (.tail _ (.tail _ (.tail _ (.tail _ (.head _)))))))) (show Value.type "tuple" ≠ Value.type "list" by decide)
    have i1 := ne_cls nE (.head _) (.tail _ (.tail _ (.tail _ (.tail _ (.tail _ (.tail _ (.head _))))))) (show Value.type "tuple" ≠ Value.type "range_iterator" by decide)
    have i2 := ne_cls nE (.tail _ (.head _)) (.tail _ (.tail _ (.tail _ (.tail _ (.tail _ (.tail _ (.head _))))))) (show Value.type "tuple" ≠ Value.type "range_iterator" by decide)
    have i3 := ne_cls nE (.tail _ (.tail _ (.tail _ (.head _)))) (.tail _ (.tail _ (.tail _ (.tail _ (.tail _ (.tail _ (.head _))))))) (show Value.type "tuple" ≠ Value.type "range_iterator" by decide)
    have nD9 := Ne.symm (Nat.ne_of_lt (l9 _ (.tail _ (.tail _ (.tail _ (.head _))))))
    have iD9 := Ne.symm (Nat.ne_of_lt (l9 _ (.tail _ (.tail _ (.head _)))))
    have nE1 := news_mid nE
    refine heappush_ (x := (.ref _, x % 64, fld x)) (H := H) B' fE X' T' rfl ?h1 ?h2 nE1 ?hne ?hH ?hx ?hl ?_
    case h1 => ktr_room
    case h2 => ktr_units
    case hl => exact hh3
    case hx => exact ⟨_, _, _, _, _, rfl, .head _⟩
    case hH => exact fun e he => (hH2 e he).mono fun p hp => .tail _ (.tail _ (.tail _ (.tail _ (.tail _ (.tail _ (.tail _ (htl ▸ List.mem_append.mpr (.inl hp))))))))
    case hne =>
      intro p hp'
      simp only [List.mem_cons] at hp'
      rcases hp' with rfl | rfl | rfl | rfl | rfl | rfl | rfl | hp'
      · exact n1
      · exact n2
      · exact nD9
      · exact n3
      · exact Nat.ne_of_lt lt2.1
      · exact Nat.ne_of_lt lt2.2.1
      · exact Ne.symm (Nat.ne_of_lt hpI)
      · exact (bt p hp').1
    intro h9 tk9 c9 F9 N9
    clear nE nE1 fE
    (k_steps; repeat' (refine Stop9.inn ?_; (first | ((with_reducible show wpAny _ _ (call (Value.builtin "len") _ _) _ _ _); k_here; (try dsimp only [List.cons_append, List.nil_append]); k_dflt (refine' lenL ?zN ?zm ?zf ?_; (case zN => k_asm); (case zm => k_mem); (case zf => assumption)); intro t9 k9; (try dsimp only)) | (k_here; (with_reducible show wpAny _ _ (subscriptTail _ _ (Value.ref _) (Value.int _ _)) _ _ _); k_dflt (refine' itemL ?zN ?zm ?za ?zb ?zx ?_ ?zs; (case zN => k_asm); (case zm => k_mem); (case za => first | with_reducible exact tn0 _ | with_reducible exact Int.le_add_one (tn0 _) | omega); (case zb => first | with_reducible exact tlt0 hi hl | with_reducible exact tlt hi hl | omega); (case zx => assumption); (case zs => with_unfolding_all rfl); k_whole)) | (k_here; k_dflt ((with_reducible show wpAny _ _ (call (Value.ref 88) _) _ _ _); (refine' parse229_ ?zB ?zF ?zX ?zT ?zhk ?zh1 ?zh2 ?zN ?zc1 ?zc2 ?zc3 ?zc4 ?zc5 ?zc6 ?zc7 ?zc8 ?zc9 ?_; (case zB => k_asm); (case zF => k_asm); (case zX => k_asm); (case zT => k_asm); (case zhk => exact rfl); (case zN => k_asm); (case zh1 => ktr_room); (case zh2 => ktr_units); (case zc1 => assumption); (case zc2 => assumption); (case zc3 => assumption); (case zc4 => assumption); (case zc5 => assumption); (case zc6 => assumption); (case zc7 => assumption); (case zc8 => assumption); (case zc9 => assumption); k_whole; intro T9 D9 h9 tk9 o9 t1 t2 F9 N9 l8 l9)); (try dsimp only)) | (k_here; k_dflt ((with_reducible show wpAny _ _ (call (Value.ref 95) _) _ _ _); (refine' parse257_ ?zB ?zF ?zX ?zT ?zhk ?zh1 ?zh2 ?zN ?zc1 ?_; (case zB => k_asm); (case zF => k_asm); (case zX => k_asm); (case zT => k_asm); (case zhk => exact rfl); (case zN => k_asm); (case zh1 => ktr_room); (case zh2 => ktr_units); (case zc1 => assumption); k_whole; intro h9 tk9 t9 F9 N9)); (try dsimp only))); all_goals k_steps))
    (rename Fr _ _ _ _ => fE)
    exact tj_end fE N9 htl ⟨i1, i2, iD9, i3, Nat.ne_of_lt hpI⟩ ⟨n1, n2, nD9, n3⟩ bt ⟨_, _, _, _, _, rfl, .head _⟩ hH2 hH1 hh3 hH3 hx rfl
end
end

end
end Mine
theorem PySem.Challenge.cw_nq0264_01_holds : PySem.Challenge.rw_nq0264_01.Holds :=
  Mine.main Mine.folders_ Mine.join_ Mine.replies_ Mine.split_ Mine.taken_
