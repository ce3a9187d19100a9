import PyProof.Rows.All
import Wide.All
import OpenK.AllK
import Wide.FinOn
import PyProof.GenQ
import PySem.Challenge.RW_re0036_01
set_option Elab.async false
set_option compiler.extract_closed false
section
open PySem PySem.W PyProof.Rows
set_option maxRecDepth 100000
set_option maxHeartbeats 8000000
noncomputable def PySem.W.Fast.tw16350708796919097252 : Unit := ()
noncomputable def PySem.W.Fast.tw17476080006546285661 : Unit := ()
noncomputable def PySem.W.Fast.tw15112985482279097393 : Unit := ()
noncomputable def PySem.W.Fast.tw3105397867545767578 : Unit := ()
noncomputable def PySem.W.Fast.tw3891137856419664920 : Unit := ()
noncomputable def PySem.W.Fast.tw6589095468515690095 : Unit := ()
noncomputable def PySem.W.Fast.tw15263041282635125899 : Unit := ()
noncomputable def PySem.W.Fast.tw17279654841073493023 : Unit := ()
noncomputable def PySem.W.Fast.tw12945451867199242903 : Unit := ()
noncomputable def PySem.W.Fast.tw1414301608579184545 : Unit := ()
noncomputable def PySem.W.Fast.tw636462944352149979 : Unit := ()
noncomputable def PySem.W.Fast.tw3778451253796500701 : Unit := ()
noncomputable def PySem.W.Fast.tw13900631225919944168 : Unit := ()
noncomputable def PySem.W.Fast.tw3972328310683599613 : Unit := ()
noncomputable def PySem.W.Fast.tw7892128664451923741 : Unit := ()
noncomputable def PySem.W.Fast.tw704327219915372674 : Unit := ()
noncomputable def PySem.W.Fast.tw13236226663087606529 : Unit := ()
noncomputable def PySem.W.Fast.tw5902227825499142635 : Unit := ()
noncomputable def PySem.W.Fast.tw282004115355043989 : Unit := ()
noncomputable def PySem.W.Fast.tw12268644228514654432 : Unit := ()
noncomputable def PySem.W.Fast.tw7745614565497352828 : Unit := ()
noncomputable def PySem.W.Fast.tw7276740287692124622 : Unit := ()
noncomputable def PySem.W.Fast.tw8603108125212654177 : Unit := ()
noncomputable def PySem.W.Fast.tw16817318245366136608 : Unit := ()
noncomputable def PySem.W.Fast.tw3152983702415266003 : Unit := ()
noncomputable def PySem.W.Fast.tw15007238320947547705 : Unit := ()
noncomputable def PySem.W.Fast.tw3282434896037501709 : Unit := ()
noncomputable def PySem.W.Fast.tw8693227569615203950 : Unit := ()
noncomputable def PySem.W.Fast.tw4090926877573551719 : Unit := ()
noncomputable def PySem.W.Fast.tw2862820112641550484 : Unit := ()
noncomputable def PySem.W.Fast.tw6683783046931543321 : Unit := ()
noncomputable def PySem.W.Fast.tw8753696776887207221 : Unit := ()
noncomputable def PySem.W.Fast.tw1962928258387122110 : Unit := ()
noncomputable def PySem.W.Fast.tw8579058602437062094 : Unit := ()
noncomputable def PySem.W.Fast.tw3619232141914619222 : Unit := ()
noncomputable def PySem.W.Fast.tw151948405760981731 : Unit := ()
noncomputable def PySem.W.Fast.tw9564595351457756722 : Unit := ()
noncomputable def PySem.W.Fast.tw1218959903707654005 : Unit := ()
noncomputable def PySem.W.Fast.tw16018607276475445134 : Unit := ()
noncomputable def PySem.W.Fast.tw17988542015724977305 : Unit := ()
noncomputable def PySem.W.Fast.tw4302124980754421698 : Unit := ()
noncomputable def PySem.W.Fast.tw7269565832213808900 : Unit := ()
noncomputable def PySem.W.Fast.tw14834023430324568649 : Unit := ()
noncomputable def PySem.W.Fast.tw16916688483869632129 : Unit := ()
noncomputable def PySem.W.Fast.tw1503297043503765363 : Unit := ()
noncomputable def PySem.W.Fast.tw1702518465993881591 : Unit := ()
noncomputable def PySem.W.Fast.tw13016732220969518872 : Unit := ()
noncomputable def PySem.W.Fast.tw11601221954471187627 : Unit := ()
noncomputable def PySem.W.Fast.tw17018628822417861297 : Unit := ()
noncomputable def PySem.W.Fast.tw13215998728584607739 : Unit := ()
noncomputable def PySem.W.Fast.tw11420187438672877268 : Unit := ()
noncomputable def PySem.W.Fast.tw6448080314894763839 : Unit := ()
noncomputable def PySem.W.Fast.tw11729385059970357855 : Unit := ()
noncomputable def PySem.W.Fast.tw1258717718454355964 : Unit := ()
noncomputable def PySem.W.Fast.tw16049961110935095269 : Unit := ()
noncomputable def PySem.W.Fast.tw9011979029575296479 : Unit := ()
noncomputable def PySem.W.Fast.tw9948023125614773506 : Unit := ()
noncomputable def PySem.W.Fast.tw6380047634161181297 : Unit := ()
noncomputable def PySem.W.Fast.tw14333388528381170442 : Unit := ()
noncomputable def PySem.W.Fast.tw11985326045990495214 : Unit := ()
noncomputable def PySem.W.Fast.tw17100903815162463580 : Unit := ()
noncomputable def PySem.W.Fast.tw392140993173905013 : Unit := ()
noncomputable def PySem.W.Fast.tw18056578402003937789 : Unit := ()
noncomputable def PySem.W.Fast.tw10029231156530900338 : Unit := ()
noncomputable def PySem.W.Fast.tw4071324889030633612 : Unit := ()
noncomputable def PySem.W.Fast.tw15066959818950650227 : Unit := ()
noncomputable def PySem.W.Fast.tw18340240734955500558 : Unit := ()
noncomputable def PySem.W.Fast.tw7275051467321613617 : Unit := ()
noncomputable def PySem.W.Fast.tw1291980286583624508 : Unit := ()
noncomputable def PySem.W.Fast.tw9908251947323293946 : Unit := ()
noncomputable def PySem.W.Fast.tw15168306246750427876 : Unit := ()
noncomputable def PySem.W.Fast.tw12866136484021002089 : Unit := ()
noncomputable def PySem.W.Fast.tw10007627690174824804 : Unit := ()
noncomputable def PySem.W.Fast.tw16531745337717519161 : Unit := ()
noncomputable def PySem.W.Fast.tw1829445100760108279 : Unit := ()
noncomputable def PySem.W.Fast.tw8424611434330503625 : Unit := ()
noncomputable def PySem.W.Fast.tw14537914154153760125 : Unit := ()
noncomputable def PySem.W.Fast.tw8376441433122354887 : Unit := ()
noncomputable def PySem.W.Fast.tw1333364371103165705 : Unit := ()
noncomputable def PySem.W.Fast.tw6245536207120538393 : Unit := ()
noncomputable def PySem.W.Fast.tw16414604833108395602 : Unit := ()
noncomputable def PySem.W.Fast.tw13607416678640721797 : Unit := ()
noncomputable def PySem.W.Fast.tw17000458434675057986 : Unit := ()
noncomputable def PySem.W.Fast.tw10948738476641704880 : Unit := ()
noncomputable def PySem.W.Fast.tw5721027456603625697 : Unit := ()
noncomputable def PySem.W.Fast.tw8075568018651887793 : Unit := ()
noncomputable def PySem.W.Fast.tw7761772673746963281 : Unit := ()
noncomputable def PySem.W.Fast.tw14979626087600564940 : Unit := ()
noncomputable def PySem.W.Fast.tw1620807190443117427 : Unit := ()
noncomputable def PySem.W.Fast.tw5131478536388391638 : Unit := ()
noncomputable def PySem.W.Fast.tw10810343834524570367 : Unit := ()
noncomputable def PySem.W.Fast.tw7304268236622374541 : Unit := ()
noncomputable def PySem.W.Fast.tw4558998842232669794 : Unit := ()
noncomputable def PySem.W.Fast.tw470574548607681690 : Unit := ()
noncomputable def PySem.W.Fast.tw12700139031502230420 : Unit := ()
noncomputable def PySem.W.Fast.tw17111948838632640456 : Unit := ()
noncomputable def PySem.W.Fast.tw14126943448341045398 : Unit := ()
noncomputable def PySem.W.Fast.tw7232422423428716515 : Unit := ()
noncomputable def PySem.W.Fast.tw10227693086864044499 : Unit := ()
noncomputable def PySem.W.Fast.tw2478078296215019888 : Unit := ()
noncomputable def PySem.W.Fast.tw4011157648589011858 : Unit := ()
noncomputable def PySem.W.Fast.tw12233582284571471492 : Unit := ()
noncomputable def PySem.W.Fast.tw9315938663221665524 : Unit := ()
noncomputable def PySem.W.Fast.tw14108194823987119177 : Unit := ()
noncomputable def PySem.W.Fast.tw15980859228951719591 : Unit := ()
noncomputable def PySem.W.Fast.tw17975652961387846372 : Unit := ()
noncomputable def PySem.W.Fast.tw8537084889766193716 : Unit := ()
noncomputable def PySem.W.Fast.tw8206430501311747189 : Unit := ()
noncomputable def PySem.W.Fast.tw13678640442995254988 : Unit := ()
noncomputable def PySem.W.Fast.tw18220123701641295943 : Unit := ()
noncomputable def PySem.W.Fast.tw2283851925072248500 : Unit := ()
noncomputable def PySem.W.Fast.tw10010936943081839664 : Unit := ()
noncomputable def PySem.W.Fast.tw13317431791736044220 : Unit := ()
noncomputable def PySem.W.Fast.tw17888162413812561239 : Unit := ()
noncomputable def PySem.W.Fast.tw10833955939284561965 : Unit := ()
noncomputable def PySem.W.Fast.tw17532718790514356516 : Unit := ()
noncomputable def PySem.W.Fast.tw17730428716208468724 : Unit := ()
noncomputable def PySem.W.Fast.tw8703263022893421829 : Unit := ()
noncomputable def PySem.W.Fast.tw8860024209350480642 : Unit := ()
noncomputable def PySem.W.Fast.tw17000155066101142889 : Unit := ()
noncomputable def PySem.W.Fast.tw10942035263794033107 : Unit := ()
noncomputable def PySem.W.Fast.tw3764465048917985505 : Unit := ()
noncomputable def PySem.W.Fast.tw10528696920762540405 : Unit := ()
namespace Mine
open_top hd for PySem.Challenge.rw_re0036_01
end Mine
end
section
open PySem PySem.W PyProof.Rows
open PySem.Builtin PySem.Builtin.Str
set_option maxRecDepth 100000
set_option maxHeartbeats 8000000
namespace Mine

/-! texts: rules that the walk lacks -/
noncomputable def find4 (x y : Str) (i j : Int) : Int := match occurrences x y (fromIndex x.length i) (min (fromIndex x.length j) x.length) 1 with | k :: _ => (k : Int) | [] => -1
theorem gives_find4 (x y : Str) (i j : Int) (t u v v' : Tok) : Gives («str.find» ⟨[.str x t, .str y u, .int i v, .int j v'], []⟩) (.int (find4 x y i j)) := by
  show Gives (match occurrences x y (fromIndex x.length i) (min (fromIndex x.length j) x.length) 1 with | k :: _ => retInt k | [] => (do rule "str.find.not-found"; retInt (-1))) _
  unfold find4
  cases occurrences x y (fromIndex x.length i) (min (fromIndex x.length j) x.length) 1 with
  | nil => exact .rule (.of_eq rfl)
  | cons k _ => exact .of_eq rfl
section
variable {prog : Program} {w : World} {A : Around} {E : Value → Shared → Prop} {s : Shared} {x y : Str} {t u v v' : Tok} {i j : Int}
theorem call_find4 {Q : Value → Shared → Prop} (hq : ∀ t k, Q (.int (find4 x y i j) t) { s with toks := k }) : wpAny (model prog w) A (call (.builtin "str.find") [.str x t, .str y u, .int i v, .int j v']) Q E s :=
  call_gives F.slot_str_find (typeIs_str _ _ _) F.entry_str_find (F.args_str_find_4 _ _ _ _) (gives_find4 x y i j t u v v') (hq _ _)
theorem truthy_pos {Q : Bool → Shared → Prop} (hp : 1 ≤ x.length) (hl : x.length ≤ 1000) (h : ∀ k, Q true { s with toks := k }) : wpAny (model prog w) A (PySem.truthy (.str x t)) Q E s :=
  P.truthy_str (by lia  ) (by have e : ((x.length : Int) != 0) = true := by rw [bne_iff_ne]; lia  
                              rw [e]; exact h _)
theorem truthy_nil {Q : Bool → Shared → Prop} (hp : x.length = 0) (h : ∀ k, Q false { s with toks := k }) : wpAny (model prog w) A (PySem.truthy (.str x t)) Q E s :=
  P.truthy_str (by lia  ) (by have e : ((x.length : Int) != 0) = false := by rw [hp]; rfl
                              rw [e]; exact h _)
end

/-! loops -/
inductive TurnI (h₀ : Heap) (L : Addr) (wr : List Addr) (own : List (Addr × Obj)) (J : (Str → Option Value) → List (Addr × Obj) → Array GenState → Prop) (dr : Drawn) (os : OsState) (s₃ : Shared) : Prop
  | mk (h' : Heap) (tk : Nat) (g : Array GenState) (m₂ : Str → Option Value) (news₂ : List (Addr × Obj)) (e : s₃ = ⟨h', g, dr, tk, os⟩) (F : Fr h₀ L h' m₂) (N : News h₀ L h' (news₂ ++ own)) (hn : ∀ p ∈ news₂, p.1 ∉ wr) (hJ : J m₂ news₂ g) : TurnI h₀ L wr own J dr os s₃
noncomputable def TurnEnd (h₀ : Heap) (L : Addr) (wr : List Addr) (own : List (Addr × Obj)) (J : (Str → Option Value) → List (Addr × Obj) → Array GenState → Prop) (s s₃ : Shared) : Prop := TurnI h₀ L wr own J s.drawn s.os s₃
noncomputable def TurnPost (h₀ : Heap) (L : Addr) (wr : List Addr) (own : List (Addr × Obj)) (J : (Str → Option Value) → List (Addr × Obj) → Array GenState → Prop) (s : Shared) (Q : Flow → Shared → Prop) (f : Flow) (s₃ : Shared) : Prop :=
  match f with
  | .ret v => Q (.ret v) s₃
  | .brk => Q .next s₃
  | _ => TurnEnd h₀ L wr own J s s₃

section
variable {prog : Program} {w : World} {A : Around} {s : Shared} {env : Env} {h₀ : Heap}
theorem news_swap {L : Addr} {h : Heap} {a b : List (Addr × Obj)} (N : News h₀ L h (a ++ b)) : News h₀ L h (b ++ a) := fun p hp =>
  N p ((List.mem_append.mp hp).elim (fun q => List.mem_append.mpr (.inr q)) fun q => List.mem_append.mpr (.inl q))
inductive ForI (St : Nat → Heap → Prop) (h₀ : Heap) (L : Addr) (wr : List Addr) (J : Nat → (Str → Option Value) → List (Addr × Obj) → Array GenState → Prop) (n : Nat) (s : Shared) (k : Nat) (s' : Shared) : Prop
  | mk (h' : Heap) (tk : Nat) (g : Array GenState) (m' : Str → Option Value) (news' : List (Addr × Obj)) (i : Nat) (e : s' = { s with heap := h', toks := tk, gens := g }) (hst : St i h') (F : Fr h₀ L h' m') (N : News h₀ L h' news') (hnw : ∀ p ∈ news', p.1 ∉ wr) (hJ : J i m' news' g) (hi : i ≤ n) (hk : k = n + 1 - i) : ForI St h₀ L wr J n s k s'
theorem forW {R : Result → Shared → Prop} {x : Str} {px : Pos} {body : List Stmt} {I : Addr} {fp wr : List Addr} {n : Nat} {P : Nat → Value → Prop} {St : Nat → Heap → Prop} {m : Str → Option Value}
    {news : List (Addr × Obj)} (W : Walks prog w A I fp wr n P St) (hx : env.kindOf x = some .local)
    (hp : (env.scope.kind == .class || (env.scope.kind == .module && env.locals != env.globals)) = false)
    (hLf : env.locals ∉ fp) (hwr : ∀ b ∈ wr, h₀.get? b = none) (hnw : ∀ p ∈ news, p.1 ∉ wr)
    (hst : St 0 s.heap) (F : Fr h₀ env.locals s.heap m) (N : News h₀ env.locals s.heap news)
    (J : Nat → (Str → Option Value) → List (Addr × Obj) → Array GenState → Prop) (h0 : J 0 m news s.gens)
    (step : ∀ i v m₁ news₁ h tk g own, i < n → P i v → J i m₁ news₁ g → (∀ p ∈ news₁, p.1 ∉ wr) → (∀ p ∈ own, p.1 ∈ fp) →
      Fr h₀ env.locals h (fun y => if y = x then some v else m₁ y) → News h₀ env.locals h (news₁ ++ own) →
      wpAny (model prog w) A (execs body env) (TurnPost h₀ env.locals wr own (J (i + 1)) s fun f s' => R (.ok f) s') (notedBy (model prog w) A env fun e s' => R (.error e) s') { s with heap := h, toks := tk, gens := g })
    (hR : ∀ h' tk g m' news', Fr h₀ env.locals h' m' → News h₀ env.locals h' news' → J n m' news' g → R (.ok .next) { s with heap := h', toks := tk, gens := g }) :
    codeAny (model prog w) A (.forLoop (.Name x px) (.ref I) body [] env) R s := by
  have hLw : env.locals ∉ wr := fun h => hLf (W.sub _ h)
  have old : ∀ b o, h₀.get? b = some o → b ∉ wr := fun b o e hb => by rw [hwr b hb] at e; cases e
  refine codeAny_forLoop
    (ForI St h₀ env.locals wr J n s) ?_ (n + 1)
    ⟨s.heap, s.toks, s.gens, m, news, 0, rfl, hst, F, N, hnw, h0, Nat.zero_le _, rfl⟩
  rintro k s' ⟨h', tk, g, m', news', i, rfl, hst', F', N', hnw', hJ, hi, rfl⟩
  have next : ∀ h₁ : Heap, (∀ b o, b ∉ wr → h'.get? b = some o → h₁.get? b = some o) → Fr h₀ env.locals h₁ m' ∧ News h₀ env.locals h₁ news' := fun h₁ hk₁ =>
    ⟨⟨F'.ns.at' fun o e => hk₁ _ o hLw e, fun b o e => hk₁ b o (old b o e) (F'.keep b o e), F'.above⟩, fun p hp => ⟨hk₁ _ _ (hnw' p hp) (N' p hp).1, (N' p hp).2⟩⟩
  by_cases hlt : i < n
  · refine W.item i _ _ _ hlt hst' fun v h₁ tk₁ hP hst₁ hk₁ => ?_
    obtain ⟨F₁, N₁⟩ := next h₁ hk₁
    refine wpAny_assign_Name (wpAny_storeName_local hx F₁.ns (fun h₂ hn₂ hs₂ => ?_) hp)
    have F₂ := F₁.set hn₂ hs₂
    have Nown : News h₀ env.locals h₂ (ownOf h₀ fp h₂) := news_ownOf hLf
    have hst₂ : St (i + 1) h₂ := W.frame _ _ _ hst₁ fun b hb o e => (hs₂.2 b fun q => hLf (q ▸ hb)).trans e
    refine wpAny_mono (step i v m' news' h₂ _ g (ownOf h₀ fp h₂) hlt hP hJ hnw' ownOf_sub F₂ (news_swap (Nown.append (N₁.set hs₂)))) (fun f s₃ h₃ => ?_) fun _ _ e => e
    have fin : TurnEnd h₀ env.locals wr (ownOf h₀ fp h₂) (J (i + 1)) s s₃ → ∃ m_1, m_1 < n + 1 - i ∧ ForI St h₀ env.locals wr J n s m_1 s₃ := by
      rintro ⟨h₃', tk₃, g₃, m₂, news₂, rfl, F₃, N₃, ha₃, hJ₃⟩
      refine ⟨n + 1 - (i + 1), by lia  , h₃', tk₃, g₃, m₂, news₂, i + 1, rfl, ?_, F₃, fun p hp => N₃ p (List.mem_append_left _ hp), ha₃, hJ₃, hlt, rfl⟩
      refine W.frame _ _ _ hst₁ fun b hb o e => ?_
      have e₂ : h₂.get? b = some o := (hs₂.2 b fun q => hLf (q ▸ hb)).trans e
      cases hn : h₀.get? b with
      | some o₀ =>
        have : o₀ = o := by have := F₂.keep b o₀ hn; rw [e₂] at this; exact (Option.some.inj this).symm
        exact this ▸ F₃.keep b o₀ hn
      | none => exact (N₃ _ (List.mem_append_right _ (mem_ownOf hb hn e₂))).1
    cases f with
    | ret v => exact h₃
    | brk => exact h₃
    | cont => exact fin h₃
    | next => exact fin h₃
  · have hin : i = n := by lia  
    subst hin
    refine W.done _ _ _ hst' fun h₁ tk₁ hk₁ => wpAny_execs_nil ?_
    obtain ⟨F₁, N₁⟩ := next h₁ hk₁
    exact hR h₁ tk₁ g m' news' F₁ N₁ hJ
end

/-! comprehensions -/
inductive EltI (h₀ : Heap) (L : Addr) (m : Str → Option Value) (bad : List Addr) (own : List (Addr × Obj)) (J : Value → List (Addr × Obj) → Array GenState → Prop) (dr : Drawn) (os : OsState) (y : Value) (s₃ : Shared) : Prop
  | mk (h' : Heap) (tk : Nat) (g : Array GenState) (news₂ : List (Addr × Obj)) (e : s₃ = ⟨h', g, dr, tk, os⟩) (F : Fr h₀ L h' m) (N : News h₀ L h' (news₂ ++ own)) (hn : ∀ p ∈ news₂, p.1 ∉ bad) (hJ : J y news₂ g) : EltI h₀ L m bad own J dr os y s₃
noncomputable def EltEnd (h₀ : Heap) (L : Addr) (m : Str → Option Value) (bad : List Addr) (own : List (Addr × Obj)) (J : Value → List (Addr × Obj) → Array GenState → Prop) (s : Shared) (y : Value) (s₃ : Shared) : Prop := EltI h₀ L m bad own J s.drawn s.os y s₃
section
variable {prog : Program} {w : World} {A : Around} {s : Shared} {cenv : Env} {h₀ : Heap} {L : Addr} {m : Str → Option Value}
inductive CompI (St : Nat → Heap → Prop) (D C : Addr) (h₀ : Heap) (L : Addr) (m : Str → Option Value) (wr : List Addr) (J : Nat → List Value → List (Addr × Obj) → Array GenState → Prop) (n : Nat) (s : Shared) (k : Nat) (s' : Shared) : Prop
  | mk (h' : Heap) (tk : Nat) (g : Array GenState) (news' : List (Addr × Obj)) (ys : List Value) (mC : Str → Option Value) (i : Nat) (e : s' = { s with heap := h', toks := tk, gens := g }) (hst : St i h') (hacc : h'.PlainList D ys.toArray) (hn : h'.Ns C mC) (F : Fr h₀ L h' m) (N : News h₀ L h' news') (hnw : ∀ q ∈ news', q.1 ∉ D :: C :: wr) (hJ : J i ys news' g) (hys : ys.length ≤ i) (hi : i ≤ n) (hk : k = n + 1 - i) : CompI St D C h₀ L m wr J n s k s'
theorem compW {R : Result → Shared → Prop} {elt iter : Expr} {x : Str} {px : Pos} {ifs : List Expr} {scope : Scope} {pos : Pos} {I D : Addr} {fp wr : List Addr} {n : Nat} {P : Nat → Value → Prop} {St : Nat → Heap → Prop}
    {mC : Str → Option Value} {news : List (Addr × Obj)} (W : Walks prog w A I fp wr n P St) (p : Nat → Value → Bool)
    (hx : cenv.kindOf x = some .local) (hp : (cenv.scope.kind == .class || (cenv.scope.kind == .module && cenv.locals != cenv.globals)) = false)
    (hDC : D ≠ cenv.locals) (hDf : D ∉ fp) (hCf : cenv.locals ∉ fp) (hL : L ∉ D :: cenv.locals :: fp) (hwr : ∀ b ∈ wr, h₀.get? b = none) (hD0 : h₀.get? D = none) (hC0 : h₀.get? cenv.locals = none)
    (hnw : ∀ q ∈ news, q.1 ∉ D :: cenv.locals :: wr)
    (hst : St 0 s.heap) (hacc : s.heap.PlainList D #[]) (hn : s.heap.Ns cenv.locals mC) (F : Fr h₀ L s.heap m) (N : News h₀ L s.heap news)
    (J : Nat → List Value → List (Addr × Obj) → Array GenState → Prop) (h0 : J 0 [] news s.gens)
    (hskip : ∀ i v ys news₁ g, i < n → P i v → p i v = false → J i ys news₁ g → J (i + 1) ys news₁ g)
    (htests : ∀ i v ys news₁ h tk g own mC, i < n → P i v → J i ys news₁ g → (∀ q ∈ news₁, q.1 ∉ D :: cenv.locals :: wr) → (∀ q ∈ own, q.1 ∈ D :: cenv.locals :: fp) →
      Fr h₀ L h m → News h₀ L h (news₁ ++ own) → h.Ns cenv.locals mC → mC x = some v → ∀ E',
      wpAny (model prog w) A (forIn ifs true fun c r => if r = true then do let ok ← isTrue c cenv (eval c cenv); pure (ForInStep.yield ok) else pure (ForInStep.yield r))
        (fun ok s₃ => ok = p i v ∧ ∃ h' tk', s₃ = { s with heap := h', toks := tk', gens := g } ∧ Fr h₀ L h' m ∧ News h₀ L h' (news₁ ++ own)) E' { s with heap := h, toks := tk, gens := g })
    (helt : ∀ i v ys news₁ h tk g own mC, i < n → P i v → p i v = true → J i ys news₁ g → (∀ q ∈ news₁, q.1 ∉ D :: cenv.locals :: wr) → (∀ q ∈ own, q.1 ∈ D :: cenv.locals :: fp) →
      Fr h₀ L h m → News h₀ L h (news₁ ++ own) → h.Ns cenv.locals mC → mC x = some v → ∀ E',
      wpAny (model prog w) A (eval elt cenv) (EltEnd h₀ L m (D :: cenv.locals :: wr) own (fun y => J (i + 1) (ys ++ [y])) s) E' { s with heap := h, toks := tk, gens := g })
    (hR : ∀ h' tk g news' ys mC, h'.Ns cenv.locals mC → h'.PlainList D ys.toArray → Fr h₀ L h' m → News h₀ L h' news' → (∀ q ∈ news', q.1 ∉ D :: cenv.locals :: wr) → J n ys news' g → R (.ok .next) { s with heap := h', toks := tk, gens := g })
    (hsz : n ≤ 1000) :
    codeAny (model prog w) A (.compLoop (.ListComp elt [⟨.Name x px, iter, ifs, 0⟩] scope pos) 0 (.ref I) (.ref D) cenv) R s := by
  have hCw : cenv.locals ∉ wr := fun h => hCf (W.sub _ h)
  have hDw : D ∉ wr := fun h => hDf (W.sub _ h)
  have hLw : L ∉ wr := fun h => hL (.tail _ (.tail _ (W.sub _ h)))
  have hLC : L ≠ cenv.locals := fun h => hL (h ▸ .tail _ (.head _))
  have hLD : L ≠ D := fun h => hL (h ▸ .head _)
  have old : ∀ b o, h₀.get? b = some o → b ∉ wr := fun b o e hb => by rw [hwr b hb] at e; cases e
  refine codeAny_compLoop_tests
    (CompI St D cenv.locals h₀ L m wr J n s) ?_ (n + 1)
    ⟨s.heap, s.toks, s.gens, news, [], mC, 0, rfl, hst, hacc, hn, F, N, hnw, h0, Nat.le_refl _, Nat.zero_le _, rfl⟩
  rintro k s' ⟨h', tk, g, news', ys, mC', i, rfl, hst', hacc', hn', F', N', hnw', hJ, hys, hi, rfl⟩
  have offw : ∀ q ∈ news', q.1 ∉ wr := fun q hq hb => hnw' q hq (.tail _ (.tail _ hb))
  have offC : ∀ q ∈ news', q.1 ≠ cenv.locals := fun q hq hb => hnw' q hq (hb ▸ .tail _ (.head _))
  have next : ∀ h₁ : Heap, (∀ b o, b ∉ wr → h'.get? b = some o → h₁.get? b = some o) → Fr h₀ L h₁ m ∧ News h₀ L h₁ news' := fun h₁ hk₁ =>
    ⟨⟨F'.ns.at' fun o e => hk₁ _ o hLw e, fun b o e => hk₁ b o (old b o e) (F'.keep b o e), F'.above⟩, fun q hq => ⟨hk₁ _ _ (offw q hq) (N' q hq).1, (N' q hq).2⟩⟩
  by_cases hlt : i < n
  · refine W.item i _ _ _ hlt hst' fun v h₁ tk₁ hPv hst₁ hk₁ => ?_
    obtain ⟨F₁, N₁⟩ := next h₁ hk₁
    refine wpAny_assign_Name (wpAny_storeName_local hx (hn'.at' fun o e => hk₁ _ o hCw e) (fun h₂ hn₂ hs₂ => ?_) hp)
    have keep₂ : ∀ b o, b ≠ cenv.locals → h₁.get? b = some o → h₂.get? b = some o := fun b o hb e => hs₂.extBut b o hb e
    have F₂ : Fr h₀ L h₂ m := ⟨F₁.ns.at' fun o e => keep₂ _ o hLC e, fun b o e => keep₂ b o (fun q => by rw [← q, e] at hC0; cases hC0) (F₁.keep b o e), F₁.above⟩
    have N₂ : News h₀ L h₂ news' := fun q hq => ⟨keep₂ _ _ (offC q hq) (N₁ q hq).1, (N₁ q hq).2⟩
    have hst₂ : St (i + 1) h₂ := W.frame _ _ _ hst₁ fun b hb o e => keep₂ b o (fun q => hCf (q ▸ hb)) e
    have hacc₂ : h₂.PlainList D ys.toArray := (hacc'.at fun o e => hk₁ _ o hDw e).at fun o e => keep₂ _ o hDC e
    let own := ownOf h₀ (D :: cenv.locals :: fp) h₂
    have Nown : News h₀ L h₂ own := news_ownOf hL
    have NN : News h₀ L h₂ (news' ++ own) := news_swap (Nown.append N₂)
    -- what the footprint's objects keep behind a piece that keeps `own`
    have stay : ∀ (h₃ : Heap) news₃, Fr h₀ L h₃ m → News h₀ L h₃ (news₃ ++ own) → ∀ b ∈ D :: cenv.locals :: fp, ∀ o, h₂.get? b = some o → h₃.get? b = some o := fun h₃ news₃ F₃ N₃ b hb o e => by
      cases hn : h₀.get? b with
      | some o₀ =>
        have : o₀ = o := by have := F₂.keep b o₀ hn; rw [e] at this; exact (Option.some.inj this).symm
        exact this ▸ F₃.keep b o₀ hn
      | none => exact (N₃ _ (List.mem_append_right _ (mem_ownOf hb hn e))).1
    refine wpAny_mono (htests i v ys news' h₂ _ g own _ hlt hPv hJ hnw' ownOf_sub F₂ NN hn₂ (by simp) _) (fun ok s₃ h₃ => ?_) fun _ _ e => e
    obtain ⟨rfl, h₃, tk₃, rfl, F₃, N₃⟩ := h₃
    have st₃ := stay h₃ news' F₃ N₃
    have hst₃ : St (i + 1) h₃ := W.frame _ _ _ hst₂ fun b hb o e => st₃ b (.tail _ (.tail _ hb)) o e
    have hacc₃ : h₃.PlainList D ys.toArray := hacc₂.at fun o e => st₃ D (.head _) o e
    have hn₃ := hn₂.at' fun o e => st₃ _ (.tail _ (.head _)) o e
    cases hpv : p i v with
    | false =>
      simp only [Bool.false_eq_true, if_false]
      exact ⟨n + 1 - (i + 1), by lia  , h₃, tk₃, g, news', ys, _, i + 1, rfl, hst₃, hacc₃, hn₃, F₃, fun q hq => N₃ q (List.mem_append_left _ hq), hnw', hskip i v ys news' g hlt hPv hpv hJ, Nat.le_succ_of_le hys, hlt, rfl⟩
    | true =>
      simp only [if_true]
      refine wpAny_mono (helt i v ys news' h₃ _ g own _ hlt hPv hpv hJ hnw' ownOf_sub F₃ N₃ hn₃ (by simp) _) (fun y s₄ h₄ => ?_) fun _ _ e => e
      obtain ⟨h₄, tk₄, g₄, news₄, rfl, F₄, N₄, hn4, hJ₄⟩ := h₄
      have st₄ := stay h₄ news₄ F₄ N₄
      have hst₄ : St (i + 1) h₄ := W.frame _ _ _ hst₂ fun b hb o e => st₄ b (.tail _ (.tail _ hb)) o e
      have hacc₄ : h₄.PlainList D ys.toArray := hacc₂.at fun o e => st₄ D (.head _) o e
      have hn₄ := hn₂.at' fun o e => st₄ _ (.tail _ (.head _)) o e
      refine wpAny_list_append_plain (hsz := by rw [List.size_toArray]; unfold sizeLine; lia  ) hacc₄ fun h₅ hl₅ hs₅ => ?_
      refine ⟨n + 1 - (i + 1), by lia  , h₅, tk₄, g₄, news₄, ys ++ [y], _, i + 1, rfl, ?_, ?_, hn₄.sameBut hs₅ (Ne.symm hDC), ?_, ?_, hn4, hJ₄, (by rw [List.length_append, List.length_singleton]; lia  ), hlt, rfl⟩
      · exact W.frame _ _ h₅ hst₄ fun b hb o e => hs₅.extBut b o (fun h => hDf (h ▸ hb)) e
      · simpa using hl₅
      · exact ⟨F₄.ns.at' fun o e => hs₅.extBut _ o hLD e, fun b o e => hs₅.extBut b o (fun q => by rw [q, hD0] at e; cases e) (F₄.keep b o e), F₄.above⟩
      · exact fun q hq => ⟨hs₅.extBut _ _ (fun h => hn4 q hq (h ▸ .head _)) (N₄ q (List.mem_append_left _ hq)).1, (N₄ q (List.mem_append_left _ hq)).2⟩
  · have hin : i = n := by lia  
    subst hin
    refine W.done _ _ _ hst' fun h₁ tk₁ hk₁ => ?_
    obtain ⟨F₁, N₁⟩ := next h₁ hk₁
    exact hR h₁ tk₁ g news' ys _ (hn'.at' fun o e => hk₁ _ o hCw e) (hacc'.at fun o e => hk₁ _ o hDw e) F₁ N₁ hnw' hJ
end
end Mine
end
section
open PySem PySem.W PyProof.Rows
open PySem.Builtin PySem.Builtin.Str
set_option maxRecDepth 100000
set_option maxHeartbeats 8000000
namespace Mine
section
variable {prog : Program} {w : World} {A : Around} {s : Shared} {env : Env} {h₀ : Heap} {E : Value → Shared → Prop}

/-- a loop that stands at its iterator -/
structure LoopG (prog : Program) (w : World) (A : Around) (h₀ : Heap) (env : Env) (x : Str) (body : List Stmt) (Q : Flow → Shared → Prop) (E : Value → Shared → Prop) (I : Addr) (fp wr : List Addr) (n : Nat) (P : Nat → Value → Prop) (St : Nat → Heap → Prop)
    (m : Str → Option Value) (news : List (Addr × Obj)) (J : Nat → (Str → Option Value) → List (Addr × Obj) → Array GenState → Prop) (s₂ : Shared) : Prop where
  W : Walks prog w A I fp wr n P St
  hLf : env.locals ∉ fp
  hwr : ∀ b ∈ wr, h₀.get? b = none
  hnw : ∀ p ∈ news, p.1 ∉ wr
  hst : St 0 s₂.heap
  F : Fr h₀ env.locals s₂.heap m
  N : News h₀ env.locals s₂.heap news
  h0 : J 0 m news s₂.gens
  step : ∀ i v m₁ news₁ h tk g own, i < n → P i v → J i m₁ news₁ g → (∀ p ∈ news₁, p.1 ∉ wr) → (∀ p ∈ own, p.1 ∈ fp) →
      Fr h₀ env.locals h (fun y => if y = x then some v else m₁ y) → News h₀ env.locals h (news₁ ++ own) →
      wpAny (model prog w) A (execs body env) (TurnPost h₀ env.locals wr own (J (i + 1)) s₂ Q) E { s₂ with heap := h, toks := tk, gens := g }
  done : ∀ h' tk g m' news', Fr h₀ env.locals h' m' → News h₀ env.locals h' news' → J n m' news' g → Q .next { s₂ with heap := h', toks := tk, gens := g }

noncomputable def LoopGE (prog : Program) (w : World) (A : Around) (h₀ : Heap) (env : Env) (x : Str) (body : List Stmt) (Q : Flow → Shared → Prop) (E : Value → Shared → Prop) (it : Value) (s₂ : Shared) : Prop :=
  ∃ I fp wr n P St m news J, it = .ref I ∧ LoopG prog w A h₀ env x body Q E I fp wr n P St m news J s₂

theorem For_G {Q : Flow → Shared → Prop} {x : Str} {px pos : Pos} {iter : Expr} {body : List Stmt} {m₀ : Str → Option Value} (_F : Fr h₀ env.locals s.heap m₀) (hx : env.kindOf x = some .local)
    (hp : (env.scope.kind == .class || (env.scope.kind == .module && env.locals != env.globals)) = false)
    (h : wpAny (model prog w) A (eval iter env) (fun xv s₁ => wpAny (model prog w) A (pyIter xv) (fun it s₂ => LoopGE prog w A h₀ env x body Q E it s₂) E s₁) E s)
    (hs : ∀ x, foldedSetIterable iter env x = pure x := by intro _; rfl)
    (hE : PassesOwn (model prog w) A env E := by passes_own) :
    wpAny (model prog w) A (exec (.For (.Name x px) iter body [] pos) env) Q E s := by
  refine wpAny_For (wpAny_mono h (fun xv s₁ h₁ => wpAny_mono h₁ (fun it s₂ h₂ => ?_) fun _ _ e => e) fun _ _ e => e) hs
  obtain ⟨I, fp, wr, n, P, St, m, news, J, rfl, G⟩ := h₂
  refine forW (R := fun r s' => match r with | .ok f => Q f s' | .error e => cameBackBy (model prog w) A env E e s') G.W hx hp G.hLf G.hwr G.hnw G.hst G.F G.N J G.h0 (fun i v m₁ news₁ h tk g own a b c d e F N => ?_) G.done
  exact wpAny_passesOwn hE (wpAny_mono (G.step i v m₁ news₁ h tk g own a b c d e F N) (fun _ _ q => q) fun _ _ q => q)

/-- the same over a list of the ledger -/
theorem iter_list {Q : Flow → Shared → Prop} {x : Str} {body : List Stmt} {l : Addr} {vs : List Value} {k : Nat} {m : Str → Option Value} {news : List (Addr × Obj)}
    (J : Nat → (Str → Option Value) → List (Addr × Obj) → Array GenState → Prop) (hh : A.handled = none) (F : Fr h₀ env.locals s.heap m) (N : News h₀ env.locals s.heap news) (hm : (l, W.listOf vs.toArray k) ∈ news)
    (h0 : J 0 m news s.gens)
    (step : ∀ I i v m₁ news₁ h tk g own, s.heap.objs.size ≤ I → vs[i]? = some v → J i m₁ news₁ g → (∀ p ∈ news₁, p.1 ≠ I) → (∀ p ∈ own, p.1 = I ∨ p.1 = l) →
      Fr h₀ env.locals h (fun y => if y = x then some v else m₁ y) → News h₀ env.locals h (news₁ ++ own) →
      wpAny (model prog w) A (execs body env) (TurnPost h₀ env.locals [I] own (J (i + 1)) s Q) E { s with heap := h, toks := tk, gens := g })
    (done : ∀ h' tk g m' news', Fr h₀ env.locals h' m' → News h₀ env.locals h' news' → J vs.length m' news' g → Q .next { s with heap := h', toks := tk, gens := g }) :
    wpAny (model prog w) A (pyIter (.ref l)) (fun it s₂ => LoopGE prog w A h₀ env x body Q E it s₂) E s := by
  have hl : s.heap.IsList l vs.toArray := ⟨_, (N _ hm).1, rfl, k, rfl⟩
  have hlt : l < s.heap.objs.size := Heap.lt_size (N _ hm).1
  refine wpAny_pyIter_list hl ?_
  have W := Walks.list (prog := prog) (w := w) hh s.heap.objs.size l (Nat.ne_of_lt hlt) vs.toArray
  refine ⟨_, _, _, _, _, _, m, news, J, rfl, W, ?_, ?_, ?_, ⟨⟨_, Heap.get?_push_size _ rfl, rfl, rfl⟩, hl.push _⟩, F.push _, (fun p hp => ⟨Heap.get?_push_of_some _ (N p hp).1, (N p hp).2⟩), h0, ?_, ?_⟩
  · intro hb
    rcases List.mem_cons.mp hb with e | hb
    · exact absurd F.ns.lt (e ▸ Nat.lt_irrefl _)
    · exact (N _ hm).2.1 (List.mem_singleton.mp hb).symm
  · intro b hb
    rw [List.mem_singleton.mp hb]
    exact next_is_new F
  · intro p hp hI
    exact absurd (Heap.lt_size (N p hp).1) ((List.mem_singleton.mp hI) ▸ Nat.lt_irrefl _)
  · intro i v m₁ news₁ h tk g own hi hP hJ ha hb F₁ N₁
    refine step s.heap.objs.size i v m₁ news₁ h tk g own (Nat.le_refl _) (by simpa using hP) hJ (fun p hp e => ha p hp (e ▸ .head _)) (fun p hp => ?_) F₁ N₁
    rcases List.mem_cons.mp (hb p hp) with e | e
    · exact .inl e
    · exact .inr (List.mem_singleton.mp e)
  · intro h' tk g m' news' F' N' hJ
    exact done h' tk g m' news' F' N' (by simpa using hJ)

/-- over a range -/
theorem iter_range {Q : Flow → Shared → Prop} {x : Str} {body : List Stmt} {r : Addr} {a b : Int} {t u v' : Tok} {n : Nat} {m : Str → Option Value} {news : List (Addr × Obj)}
    (J : Nat → (Str → Option Value) → List (Addr × Obj) → Array GenState → Prop) (hh : A.handled = none) (hr : IsRange s.heap r a b 1 t u v') (hn : Builtin.Range.rangeSize a b 1 = (n : Int)) (hsm : Builtin.Range.small a b 1 = true)
    (F : Fr h₀ env.locals s.heap m) (N : News h₀ env.locals s.heap news)
    (h0 : J 0 m news s.gens)
    (step : ∀ I i tv m₁ news₁ h tk g own, s.heap.objs.size ≤ I → i < n → J i m₁ news₁ g → (∀ p ∈ news₁, p.1 ≠ I) → (∀ p ∈ own, p.1 = I) →
      Fr h₀ env.locals h (fun y => if y = x then some (.int (a + i) tv) else m₁ y) → News h₀ env.locals h (news₁ ++ own) →
      wpAny (model prog w) A (execs body env) (TurnPost h₀ env.locals [I] own (J (i + 1)) s Q) E { s with heap := h, toks := tk, gens := g })
    (done : ∀ h' tk g m' news', Fr h₀ env.locals h' m' → News h₀ env.locals h' news' → J n m' news' g → Q .next { s with heap := h', toks := tk, gens := g }) :
    wpAny (model prog w) A (pyIter (.ref r)) (fun it s₂ => LoopGE prog w A h₀ env x body Q E it s₂) E s := by
  refine wpAny_pyIter_range hr hsm ?_
  have W := Walks.range (prog := prog) (w := w) hh s.heap.objs.size a 1 n
  refine ⟨_, _, _, _, _, _, m, news, J, rfl, W, ?_, ?_, ?_, ?_, F.push _, (fun p hp => ⟨Heap.get?_push_of_some _ (N p hp).1, (N p hp).2⟩), h0, ?_, ?_⟩
  · intro hb
    exact absurd F.ns.lt ((List.mem_singleton.mp hb) ▸ Nat.lt_irrefl _)
  · intro b hb
    rw [List.mem_singleton.mp hb]
    exact next_is_new F
  · intro p hp hI
    exact absurd (Heap.lt_size (N p hp).1) ((List.mem_singleton.mp hI) ▸ Nat.lt_irrefl _)
  · have := Heap.get?_push_size (h := s.heap) (o := { cls := .type "range_iterator", data := .fields #[rawInt a, rawInt (Builtin.Range.rangeSize a b 1), rawInt 1] }) rfl
    rw [hn] at this ⊢
    simpa [IsRangeIter] using this
  · intro i v m₁ news₁ h tk g own hi hP hJ ha hb F₁ N₁
    obtain ⟨tv, rfl⟩ := hP
    rw [Int.mul_one] at F₁
    exact step s.heap.objs.size i tv m₁ news₁ h tk g own (Nat.le_refl _) hi hJ (fun p hp e => ha p hp (e ▸ .head _)) (fun p hp => List.mem_singleton.mp (hb p hp)) F₁ N₁
  · intro h' tk g m' news' F' N' hJ
    exact done h' tk g m' news' F' N' hJ

end

/-! comprehensions, whole -/
section
variable {prog : Program} {w : World} {A : Around} {s : Shared} {env : Env} {h₀ : Heap} {E : Value → Shared → Prop}
structure CompG (prog : Program) (w : World) (A : Around) (h₀ : Heap) (env : Env) (scope : Scope) (cl : List (Str × Addr)) (x : Str) (ifs : List Expr) (elt : Expr) (I : Addr) (fp wr : List Addr) (n : Nat) (P : Nat → Value → Prop) (St : Nat → Heap → Prop)
    (m : Str → Option Value) (news : List (Addr × Obj)) (p : Nat → Value → Bool) (J : Nat → List Value → List (Addr × Obj) → Array GenState → Prop) (s₂ : Shared) : Prop where
  W : Walks prog w A I fp wr n P St
  hsz : n ≤ 1000
  hfp : ∀ b ∈ fp, b < s₂.heap.objs.size
  hLf : env.locals ∉ fp
  hwr : ∀ b ∈ wr, h₀.get? b = none
  hnw : ∀ q ∈ news, q.1 ∉ wr
  hst : St 0 s₂.heap
  F : Fr h₀ env.locals s₂.heap m
  N : News h₀ env.locals s₂.heap news
  h0 : J 0 [] news s₂.gens
  hskip : ∀ i v ys news₁ g, i < n → P i v → p i v = false → J i ys news₁ g → J (i + 1) ys news₁ g
  tests : ∀ C D i v ys news₁ h tk g own mC, s₂.heap.objs.size ≤ C → s₂.heap.objs.size ≤ D → i < n → P i v → J i ys news₁ g → (∀ q ∈ news₁, q.1 ∉ D :: C :: wr) → (∀ q ∈ own, q.1 ∈ D :: C :: fp) →
      Fr h₀ env.locals h m → News h₀ env.locals h (news₁ ++ own) → h.Ns C mC → mC x = some v → ∀ E',
      wpAny (model prog w) A (forIn ifs true fun c r => if r = true then do let ok ← isTrue c (compEnvC scope cl C env) (eval c (compEnvC scope cl C env)); pure (ForInStep.yield ok) else pure (ForInStep.yield r))
        (fun ok s₃ => ok = p i v ∧ ∃ h' tk', s₃ = { s₂ with heap := h', toks := tk', gens := g } ∧ Fr h₀ env.locals h' m ∧ News h₀ env.locals h' (news₁ ++ own)) E' { s₂ with heap := h, toks := tk, gens := g }
  elt : ∀ C D i v ys news₁ h tk g own mC, s₂.heap.objs.size ≤ C → s₂.heap.objs.size ≤ D → i < n → P i v → p i v = true → J i ys news₁ g → (∀ q ∈ news₁, q.1 ∉ D :: C :: wr) → (∀ q ∈ own, q.1 ∈ D :: C :: fp) →
      Fr h₀ env.locals h m → News h₀ env.locals h (news₁ ++ own) → h.Ns C mC → mC x = some v → ∀ E',
      wpAny (model prog w) A (eval elt (compEnvC scope cl C env)) (EltEnd h₀ env.locals m (D :: C :: wr) own (fun y => J (i + 1) (ys ++ [y])) s₂) E' { s₂ with heap := h, toks := tk, gens := g }

theorem comp_run {elt iter : Expr} {x : Str} {px : Pos} {ifs : List Expr} {scope : Scope} {cl : List (Str × Addr)} {pos : Pos} {s₂ : Shared} {I : Addr} {fp wr : List Addr} {n : Nat} {P : Nat → Value → Prop}
    {St : Nat → Heap → Prop} {m : Str → Option Value} {news : List (Addr × Obj)} {p : Nat → Value → Bool} {J : Nat → List Value → List (Addr × Obj) → Array GenState → Prop} {RR : Value → Addr → Result → Shared → Prop}
    (G : CompG prog w A h₀ env scope cl x ifs elt I fp wr n P St m news p J s₂)
    (hcell : ∀ y ∈ scope.names, y.2 ≠ .cell) (hkind : scope.kind = .function) (hx : scope.names.lookup x = some .local)
    (hRR : ∀ D C h' tk g mC news' ys k, s₂.heap.objs.size ≤ D → s₂.heap.objs.size ≤ C → D ≠ C → h'.Ns C mC → h₀.get? C = none → h₀.get? D = none → C ≠ env.locals → D ≠ env.locals → h'.get? D = some (W.listOf ys.toArray k) → Fr h₀ env.locals h' m → News h₀ env.locals h' news' → (∀ q ∈ news', q.1 ≠ C) → (∀ q ∈ news', q.1 ≠ D) → J n ys news' g →
      RR (.ref D) C (.ok .next) { s₂ with heap := h', toks := tk, gens := g }) :
    wpAny (model prog w) A (newList []) (fun acc s₃ => wpAny (model prog w) A (newFunctionEnv scope env.globals cl [] env.qual none .none (some env)) (fun cenv s₄ =>
      codeAny (model prog w) A (.compStart (.ListComp elt [⟨.Name x px, iter, ifs, 0⟩] scope pos) 0 (.ref I) acc { cenv with scope := relabel scope env }) (RR acc cenv.locals) s₄) E s₃) E s₂ := by
  refine wpAny_newObj_type (wpAny_newFunctionEnv hcell (by intro y hy; simp at hy) (fun h₁ hns₁ hsb₁ => ?_) hkind)
  dsimp only at hns₁ hsb₁ ⊢
  generalize hH2 : s₂.heap.push { cls := .type "list", dict := none, data := .seq ([] : List Value).toArray } = H2 at hns₁ hsb₁ ⊢
  have hC : H2.objs.size = s₂.heap.objs.size + 1 := by rw [← hH2, Heap.size_push]
  have hDC : s₂.heap.objs.size ≠ H2.objs.size := by rw [hC]; exact Nat.ne_of_lt (Nat.lt_succ_self _)
  have hCle : s₂.heap.objs.size ≤ H2.objs.size := by rw [hC]; exact Nat.le_succ _
  have below : ∀ b, b < s₂.heap.objs.size → b ≠ H2.objs.size ∧ b ≠ s₂.heap.objs.size := fun b hb => ⟨by rw [hC]; exact Nat.ne_of_lt (Nat.lt_succ_of_lt hb), Nat.ne_of_lt hb⟩
  have hDf : s₂.heap.objs.size ∉ fp := fun hm => Nat.lt_irrefl _ (G.hfp _ hm)
  have hCf : H2.objs.size ∉ fp := fun hm => by have := G.hfp _ hm; rw [hC] at this; exact Nat.lt_irrefl _ (Nat.lt_of_succ_lt this)
  have old : ∀ b o, s₂.heap.get? b = some o → h₁.get? b = some o := fun b o e => hsb₁.extBut b o (below b (Heap.lt_size e)).1 (Heap.get?_push_of_some _ (hH2 ▸ Heap.get?_push_of_some _ e))
  have hacc : h₁.PlainList s₂.heap.objs.size #[] := ⟨_, hsb₁.extBut _ _ hDC (Heap.get?_push_of_some _ (hH2 ▸ Heap.get?_push_size _ rfl))⟩
  have hst₁ : St 0 h₁ := G.W.frame _ _ _ G.hst fun b _ o e => old b o e
  have new : ∀ a, s₂.heap.objs.size ≤ a → h₀.get? a = none := fun a ha => by
    cases e : h₀.get? a with
    | none => rfl
    | some o' => exact absurd (Heap.lt_size (G.F.keep _ _ e)) (Nat.not_lt.mpr ha)
  have hL1 : env.locals < s₂.heap.objs.size := G.F.ns.lt
  have hL : env.locals ∉ s₂.heap.objs.size :: H2.objs.size :: fp := by
    intro hm
    rcases List.mem_cons.mp hm with e | hm
    · exact (below _ hL1).2 e
    · rcases List.mem_cons.mp hm with e | hm
      · exact (below _ hL1).1 e
      · exact G.hLf hm
  have F₁ : Fr h₀ env.locals h₁ m := ⟨G.F.ns.at' fun o e => old _ o e, fun b o e => old b o (G.F.keep b o e), G.F.above⟩
  have N₁ : News h₀ env.locals h₁ news := fun q hq => ⟨old _ _ (G.N q hq).1, (G.N q hq).2⟩
  have hnw : ∀ q ∈ news, q.1 ∉ s₂.heap.objs.size :: H2.objs.size :: wr := fun q hq hm => by
    have hlt := Heap.lt_size (G.N q hq).1
    rcases List.mem_cons.mp hm with e | hm
    · exact (below _ hlt).2 e
    · rcases List.mem_cons.mp hm with e | hm
      · exact (below _ hlt).1 e
      · exact G.hnw q hq hm
  have loop : ∀ s₃ : Shared, s₃ = { s₂ with heap := h₁, toks := s₂.toks + ([] : List (Str × Value)).length } →
      codeAny (model prog w) A (.compLoop (.ListComp elt [⟨.Name x px, iter, ifs, 0⟩] scope pos) 0 (.ref I) (.ref s₂.heap.objs.size) (compEnvC scope cl H2.objs.size env))
        (RR (.ref s₂.heap.objs.size) H2.objs.size) s₃ := by
    rintro s₃ rfl
    refine compW (cenv := compEnvC scope cl H2.objs.size env) (h₀ := h₀) (L := env.locals) (m := m) (news := news) G.W p (lookup_relabel_local hx) (by simp [compEnvC, relabel, hkind]) hDC hDf hCf hL G.hwr (new _ (Nat.le_refl _)) (new _ hCle) hnw hst₁ hacc hns₁ F₁ N₁ J G.h0 G.hskip
      (fun i v ys news₁ h tk g own mC a b c d e F N hn hm E' => G.tests H2.objs.size s₂.heap.objs.size i v ys news₁ h tk g own mC hCle (Nat.le_refl _) a b c d e F N hn hm E')
      (fun i v ys news₁ h tk g own mC a b b' c d e F N hn hm E' => G.elt H2.objs.size s₂.heap.objs.size i v ys news₁ h tk g own mC hCle (Nat.le_refl _) a b b' c d e F N hn hm E') (fun h' tk g news' ys mC hn hpl F N hq hJ => ?_) G.hsz
    obtain ⟨k, hk⟩ := hpl
    exact hRR _ _ h' tk g mC news' ys k (Nat.le_refl _) hCle hDC hn (new _ hCle) (new _ (Nat.le_refl _)) (Ne.symm (below _ hL1).1) (Ne.symm (below _ hL1).2) hk F N (fun q hq' e => hq q hq' (e ▸ .tail _ (.head _))) (fun q hq' e => hq q hq' (e ▸ .head _)) hJ
  exact codeAny_compStart_list (loop _ rfl) (G.W.self 0 _ _ _ hst₁ (loop _ rfl))


noncomputable def CompGE (prog : Program) (w : World) (A : Around) (h₀ : Heap) (env : Env) (scope : Scope) (cl : List (Str × Addr)) (x : Str) (ifs : List Expr) (elt : Expr) (mf : (Str → Option Value) → Addr → Str → Option Value) (Q : Addr → Shared → Prop) (it : Value) (s₂ : Shared) : Prop :=
  ∃ I fp wr n P St m news p J, it = .ref I ∧ CompG prog w A h₀ env scope cl x ifs elt I fp wr n P St m news p J s₂ ∧
    ∀ D h' tk g news' ys k, s₂.heap.objs.size ≤ D → Fr h₀ env.locals h' (mf m D) → News h₀ env.locals h' ((D, W.listOf ys.toArray k) :: news') → (∀ q ∈ news', q.1 ≠ D) → J n ys news' g → Q D { s₂ with heap := h', toks := tk, gens := g }

theorem ListComp_G {elt iter : Expr} {x : Str} {px : Pos} {ifs : List Expr} {scope : Scope} {cl : List (Str × Addr)} {pos : Pos} {Q : Value → Shared → Prop} {m₀ : Str → Option Value} (_F : Fr h₀ env.locals s.heap m₀)
    (hclos : closureFor scope env = pure cl) (hcell : ∀ y ∈ scope.names, y.2 ≠ .cell) (hkind : scope.kind = .function)
    (hnames : ∀ y ∈ scope.names, y.2 = .local → scope.names.lookup y.1 = some .local) (hx : scope.names.lookup x = some .local)
    (h : wpAny (model prog w) A (eval iter env) (fun xv s₁ => wpAny (model prog w) A (pyIter xv) (fun it s₂ => CompGE prog w A h₀ env scope cl x ifs elt (fun m _ => m) (fun D s' => Q (.ref D) s') it s₂) E s₁) E s)
    (hs : ∀ x, foldedSetIterable iter env x = pure x := by intro _; rfl) :
    wpAny (model prog w) A (eval (.ListComp elt [⟨.Name x px, iter, ifs, 0⟩] scope pos) env) Q E s := by
  rw [eval_ListComp]
  refine wpAny_comprehension_free (use := none) rfl hs hclos hkind hnames (wpAny_mono h (fun xv s₁ h₁ => wpAny_mono h₁ (fun it s₂ h₂ => ?_) fun _ _ e => e) fun _ _ e => e)
  obtain ⟨I, fp, wr, n, P, St, m, news, p, J, rfl, G, hQ⟩ := h₂
  refine comp_run (RR := fun acc C => compPost (model prog w) A E none Q acc C) G hcell hkind hx ?_
  intro D C h' tk g mC news' ys k hD hC hDC hn hC0 hD0 hCL hDL hg F N nC nD hJ
  refine ⟨mC, hn, fun h'' hs'' => ?_⟩
  refine hQ D h'' tk g news' ys k hD ⟨F.ns.at' fun o e => hs''.extBut _ o (Ne.symm hCL) e, fun b o e => hs''.extBut b o (fun q => by rw [q, hC0] at e; cases e) (F.keep b o e), F.above⟩ (fun q hq => ?_) nD hJ
  rcases List.mem_cons.mp hq with rfl | hq
  · exact ⟨hs''.extBut _ _ hDC hg, hDL, hD0⟩
  · exact ⟨hs''.extBut _ _ (nC q hq) (N q hq).1, (N q hq).2⟩

theorem AssignComp_G {elt iter : Expr} {x y : Str} {px py : Pos} {ifs : List Expr} {scope : Scope} {cl : List (Str × Addr)} {pos spos : Pos} {Q : Flow → Shared → Prop} {m₀ : Str → Option Value} (_F : Fr h₀ env.locals s.heap m₀)
    (hsw : swapsWith (.ListComp elt [⟨.Name x px, iter, ifs, 0⟩] scope pos) (some (.Name y py)) spos.line env = pure true)
    (hclos : closureFor scope env = pure cl) (hcell : ∀ y ∈ scope.names, y.2 ≠ .cell) (hkind : scope.kind = .function)
    (hnames : ∀ y ∈ scope.names, y.2 = .local → scope.names.lookup y.1 = some .local) (hx : scope.names.lookup x = some .local)
    (hy : env.kindOf y = some .local) (hp : (env.scope.kind == .class || (env.scope.kind == .module && env.locals != env.globals)) = false)
    (h : wpAny (model prog w) A (eval iter env) (fun xv s₁ => wpAny (model prog w) A (pyIter xv) (fun it s₂ => CompGE prog w A h₀ env scope cl x ifs elt (fun m D z => if z = y then some (.ref D) else m z) (fun _ s' => Q .next s') it s₂) E s₁) E s)
    (hs : ∀ x, foldedSetIterable iter env x = pure x := by intro _; rfl) :
    wpAny (model prog w) A (exec (.Assign [.Name y py] (.ListComp elt [⟨.Name x px, iter, ifs, 0⟩] scope pos) spos) env) Q E s := by
  rw [exec_Assign_Name_used _ _ _ _ hsw]
  refine wpAny_bind (wpAny_standAt (wpAny_bind ?_))
  show wpAny _ A (do let _ ← comprehension (.ListComp elt [⟨.Name x px, iter, ifs, 0⟩] scope pos) scope env _ (newList []) false (eval iter env) (some (assign (.Name y py) env))) _ _ s
  refine wpAny_bind (wpAny_mono (wpAny_comprehension_free (use := some (assign (.Name y py) env)) (Q := fun _ s' => Q .next s') rfl hs hclos hkind hnames
    (wpAny_mono h (fun xv s₁ h₁ => wpAny_mono h₁ (fun it s₂ h₂ => ?_) fun _ _ e => e) fun _ _ e => e)) (fun _ s' hq => wpAny_pure (wpAny_pure hq)) fun _ _ e => e)
  obtain ⟨I, fp, wr, n, P, St, m, news, p, J, rfl, G, hQ⟩ := h₂
  refine comp_run (RR := fun acc C => compPost (model prog w) A E (some (assign (.Name y py) env)) (fun _ s' => Q .next s') acc C) G hcell hkind hx ?_
  intro D C h' tk g mC news' ys k hD hC hDC hn hC0 hD0 hCL hDL hg F N nC nD hJ
  show wpAny _ A (assign (.Name y py) env (.ref D)) _ _ _
  refine wpAny_assign_Name (wpAny_storeName_local hy F.ns (fun h₂ hn₂ hs₂ => ?_) hp)
  refine ⟨mC, hn.sameBut hs₂ hCL, fun h₃ hs₃ => ?_⟩
  have F₂ := F.set hn₂ hs₂
  refine hQ D h₃ _ g news' ys k hD ⟨F₂.ns.at' fun o e => hs₃.extBut _ o (Ne.symm hCL) e, fun b o e => hs₃.extBut b o (fun q => by rw [q, hC0] at e; cases e) (F₂.keep b o e), F₂.above⟩ (fun q hq => ?_) nD hJ
  rcases List.mem_cons.mp hq with rfl | hq
  · exact ⟨hs₃.extBut _ _ hDC (hs₂.extBut _ _ hDL hg), hDL, hD0⟩
  · exact ⟨hs₃.extBut _ _ (nC q hq) (hs₂.extBut _ _ (N q hq).2.1 (N q hq).1), (N q hq).2⟩

section
variable {scope : Scope} {cl : List (Str × Addr)} {x : Str} {ifs : List Expr} {elt : Expr} {mf : (Str → Option Value) → Addr → Str → Option Value} {Q : Addr → Shared → Prop} {m : Str → Option Value} {news : List (Addr × Obj)}
  (p : Nat → Value → Bool) (J : Nat → List Value → List (Addr × Obj) → Array GenState → Prop)
theorem citer_list {l : Addr} {vs : List Value} {k : Nat} (hh : A.handled = none) (F : Fr h₀ env.locals s.heap m) (N : News h₀ env.locals s.heap news) (hm : (l, W.listOf vs.toArray k) ∈ news) (hsz : vs.length ≤ 1000)
    (h0 : J 0 [] news s.gens)
    (hskip : ∀ i v ys news₁ g, vs[i]? = some v → p i v = false → J i ys news₁ g → J (i + 1) ys news₁ g)
    (tests : ∀ C D I i v ys news₁ h tk g own mC, s.heap.objs.size < C → s.heap.objs.size < D → s.heap.objs.size ≤ I → vs[i]? = some v → J i ys news₁ g → (∀ q ∈ news₁, q.1 ∉ [D, C, I]) → (∀ q ∈ own, q.1 ∈ [D, C, I, l]) →
      Fr h₀ env.locals h m → News h₀ env.locals h (news₁ ++ own) → h.Ns C mC → mC x = some v → ∀ E',
      wpAny (model prog w) A (forIn ifs true fun c r => if r = true then do let ok ← isTrue c (compEnvC scope cl C env) (eval c (compEnvC scope cl C env)); pure (ForInStep.yield ok) else pure (ForInStep.yield r))
        (fun ok s₃ => ok = p i v ∧ ∃ h' tk', s₃ = { s with heap := h', toks := tk', gens := g } ∧ Fr h₀ env.locals h' m ∧ News h₀ env.locals h' (news₁ ++ own)) E' { s with heap := h, toks := tk, gens := g })
    (helt : ∀ C D I i v ys news₁ h tk g own mC, s.heap.objs.size < C → s.heap.objs.size < D → s.heap.objs.size ≤ I → vs[i]? = some v → p i v = true → J i ys news₁ g → (∀ q ∈ news₁, q.1 ∉ [D, C, I]) → (∀ q ∈ own, q.1 ∈ [D, C, I, l]) →
      Fr h₀ env.locals h m → News h₀ env.locals h (news₁ ++ own) → h.Ns C mC → mC x = some v → ∀ E',
      wpAny (model prog w) A (eval elt (compEnvC scope cl C env)) (EltEnd h₀ env.locals m [D, C, I] own (fun y => J (i + 1) (ys ++ [y])) s) E' { s with heap := h, toks := tk, gens := g })
    (done : ∀ D h' tk g news' ys k, s.heap.objs.size < D → Fr h₀ env.locals h' (mf m D) → News h₀ env.locals h' ((D, W.listOf ys.toArray k) :: news') → (∀ q ∈ news', q.1 ≠ D) → J vs.length ys news' g → Q D { s with heap := h', toks := tk, gens := g }) :
    wpAny (model prog w) A (pyIter (.ref l)) (fun it s₂ => CompGE prog w A h₀ env scope cl x ifs elt mf Q it s₂) E s := by
  have hl : s.heap.IsList l vs.toArray := ⟨_, (N _ hm).1, rfl, k, rfl⟩
  have hlt : l < s.heap.objs.size := Heap.lt_size (N _ hm).1
  refine wpAny_pyIter_list hl ?_
  have W := Walks.list (prog := prog) (w := w) hh s.heap.objs.size l (Nat.ne_of_lt hlt) vs.toArray
  have sz : ∀ o, (s.heap.push o).objs.size = s.heap.objs.size + 1 := fun o => Heap.size_push ..
  refine ⟨_, _, _, _, _, _, m, news, p, J, rfl, ⟨W, by simpa using hsz, ?_, ?_, ?_, ?_, ⟨⟨_, Heap.get?_push_size _ rfl, rfl, rfl⟩, hl.push _⟩, F.push _, (fun p hp => ⟨Heap.get?_push_of_some _ (N p hp).1, (N p hp).2⟩), h0, ?_, ?_, ?_⟩, ?_⟩
  · intro b hb
    show b < (s.heap.push _).objs.size
    rw [sz]
    rcases List.mem_cons.mp hb with e | hb
    · exact e ▸ Nat.lt_succ_self _
    · exact (List.mem_singleton.mp hb) ▸ Nat.lt_succ_of_lt hlt
  · intro hb
    rcases List.mem_cons.mp hb with e | hb
    · exact absurd F.ns.lt (e ▸ Nat.lt_irrefl _)
    · exact (N _ hm).2.1 (List.mem_singleton.mp hb).symm
  · intro b hb
    rw [List.mem_singleton.mp hb]
    exact next_is_new F
  · intro p hp hI
    exact absurd (Heap.lt_size (N p hp).1) ((List.mem_singleton.mp hI) ▸ Nat.lt_irrefl _)
  · intro i v ys news₁ g _ hP hp hJ
    exact hskip i v ys news₁ g (by simpa using hP) hp hJ
  · intro C D i v ys news₁ h tk g own mC hC hD _ hP hJ h1 h2 F N hn hm E'
    have hC' : s.heap.objs.size < C := by have : (s.heap.push _).objs.size ≤ C := hC; rw [sz] at this; lia  
    have hD' : s.heap.objs.size < D := by have : (s.heap.push _).objs.size ≤ D := hD; rw [sz] at this; lia  
    exact tests C D s.heap.objs.size i v ys news₁ h tk g own mC hC' hD' (Nat.le_refl _) (by simpa using hP) hJ h1 h2 F N hn hm E'
  · intro C D i v ys news₁ h tk g own mC hC hD _ hP hp hJ h1 h2 F N hn hm E'
    have hC' : s.heap.objs.size < C := by have : (s.heap.push _).objs.size ≤ C := hC; rw [sz] at this; lia  
    have hD' : s.heap.objs.size < D := by have : (s.heap.push _).objs.size ≤ D := hD; rw [sz] at this; lia  
    exact helt C D s.heap.objs.size i v ys news₁ h tk g own mC hC' hD' (Nat.le_refl _) (by simpa using hP) hp hJ h1 h2 F N hn hm E'
  · intro D h' tk g news' ys k hD F' N' hq hJ
    have hD' : s.heap.objs.size < D := by have : (s.heap.push _).objs.size ≤ D := hD; rw [sz] at this; lia  
    exact done D h' tk g news' ys k hD' F' N' hq (by simpa using hJ)

theorem citer_range {r : Addr} {a b : Int} {t u v' : Tok} {n : Nat} (hh : A.handled = none) (hr : IsRange s.heap r a b 1 t u v') (hn : Builtin.Range.rangeSize a b 1 = (n : Int)) (hsm : Builtin.Range.small a b 1 = true)
    (F : Fr h₀ env.locals s.heap m) (N : News h₀ env.locals s.heap news) (hsz : n ≤ 1000)
    (h0 : J 0 [] news s.gens)
    (hskip : ∀ i t ys news₁ g, i < n → p i (.int (a + i) t) = false → J i ys news₁ g → J (i + 1) ys news₁ g)
    (tests : ∀ C D I i tv ys news₁ h tk g own mC, s.heap.objs.size < C → s.heap.objs.size < D → s.heap.objs.size ≤ I → i < n → J i ys news₁ g → (∀ q ∈ news₁, q.1 ∉ [D, C, I]) → (∀ q ∈ own, q.1 ∈ [D, C, I]) →
      Fr h₀ env.locals h m → News h₀ env.locals h (news₁ ++ own) → h.Ns C mC → mC x = some (.int (a + i) tv) → ∀ E',
      wpAny (model prog w) A (forIn ifs true fun c r => if r = true then do let ok ← isTrue c (compEnvC scope cl C env) (eval c (compEnvC scope cl C env)); pure (ForInStep.yield ok) else pure (ForInStep.yield r))
        (fun ok s₃ => ok = p i (.int (a + i) tv) ∧ ∃ h' tk', s₃ = { s with heap := h', toks := tk', gens := g } ∧ Fr h₀ env.locals h' m ∧ News h₀ env.locals h' (news₁ ++ own)) E' { s with heap := h, toks := tk, gens := g })
    (helt : ∀ C D I i tv ys news₁ h tk g own mC, s.heap.objs.size < C → s.heap.objs.size < D → s.heap.objs.size ≤ I → i < n → p i (.int (a + i) tv) = true → J i ys news₁ g → (∀ q ∈ news₁, q.1 ∉ [D, C, I]) → (∀ q ∈ own, q.1 ∈ [D, C, I]) →
      Fr h₀ env.locals h m → News h₀ env.locals h (news₁ ++ own) → h.Ns C mC → mC x = some (.int (a + i) tv) → ∀ E',
      wpAny (model prog w) A (eval elt (compEnvC scope cl C env)) (EltEnd h₀ env.locals m [D, C, I] own (fun y => J (i + 1) (ys ++ [y])) s) E' { s with heap := h, toks := tk, gens := g })
    (done : ∀ D h' tk g news' ys k, s.heap.objs.size < D → Fr h₀ env.locals h' (mf m D) → News h₀ env.locals h' ((D, W.listOf ys.toArray k) :: news') → (∀ q ∈ news', q.1 ≠ D) → J n ys news' g → Q D { s with heap := h', toks := tk, gens := g }) :
    wpAny (model prog w) A (pyIter (.ref r)) (fun it s₂ => CompGE prog w A h₀ env scope cl x ifs elt mf Q it s₂) E s := by
  refine wpAny_pyIter_range hr hsm ?_
  have W := Walks.range (prog := prog) (w := w) hh s.heap.objs.size a 1 n
  have sz : ∀ o, (s.heap.push o).objs.size = s.heap.objs.size + 1 := fun o => Heap.size_push ..
  refine ⟨_, _, _, _, _, _, m, news, p, J, rfl, ⟨W, hsz, ?_, ?_, ?_, ?_, ?_, F.push _, (fun p hp => ⟨Heap.get?_push_of_some _ (N p hp).1, (N p hp).2⟩), h0, ?_, ?_, ?_⟩, ?_⟩
  · intro b hb
    show b < (s.heap.push _).objs.size
    rw [sz, List.mem_singleton.mp hb]; exact Nat.lt_succ_self _
  · intro hb
    exact absurd F.ns.lt ((List.mem_singleton.mp hb) ▸ Nat.lt_irrefl _)
  · intro b hb
    rw [List.mem_singleton.mp hb]
    exact next_is_new F
  · intro p hp hI
    exact absurd (Heap.lt_size (N p hp).1) ((List.mem_singleton.mp hI) ▸ Nat.lt_irrefl _)
  · have := Heap.get?_push_size (h := s.heap) (o := { cls := .type "range_iterator", data := .fields #[rawInt a, rawInt (Builtin.Range.rangeSize a b 1), rawInt 1] }) rfl
    rw [hn] at this ⊢
    simpa [IsRangeIter] using this
  · intro i v ys news₁ g hi hP hp hJ
    obtain ⟨tv, rfl⟩ := hP
    rw [Int.mul_one] at hp
    exact hskip i tv ys news₁ g hi hp hJ
  · intro C D i v ys news₁ h tk g own mC hC hD hi hP hJ h1 h2 F N hn hm E'
    obtain ⟨tv, rfl⟩ := hP
    rw [Int.mul_one] at hm ⊢
    have hC' : s.heap.objs.size < C := by have : (s.heap.push _).objs.size ≤ C := hC; rw [sz] at this; lia  
    have hD' : s.heap.objs.size < D := by have : (s.heap.push _).objs.size ≤ D := hD; rw [sz] at this; lia  
    exact tests C D s.heap.objs.size i tv ys news₁ h tk g own mC hC' hD' (Nat.le_refl _) hi hJ h1 h2 F N hn hm E'
  · intro C D i v ys news₁ h tk g own mC hC hD hi hP hp hJ h1 h2 F N hn hm E'
    obtain ⟨tv, rfl⟩ := hP
    rw [Int.mul_one] at hm hp
    have hC' : s.heap.objs.size < C := by have : (s.heap.push _).objs.size ≤ C := hC; rw [sz] at this; lia  
    have hD' : s.heap.objs.size < D := by have : (s.heap.push _).objs.size ≤ D := hD; rw [sz] at this; lia  
    exact helt C D s.heap.objs.size i tv ys news₁ h tk g own mC hC' hD' (Nat.le_refl _) hi hp hJ h1 h2 F N hn hm E'
  · intro D h' tk g news' ys k hD F' N' hq hJ
    have hD' : s.heap.objs.size < D := by have : (s.heap.push _).objs.size ≤ D := hD; rw [sz] at this; lia  
    exact done D h' tk g news' ys k hD' F' N' hq hJ

theorem citer_str {c : Str} {t : Tok} (hh : A.handled = none)
    (F : Fr h₀ env.locals s.heap m) (N : News h₀ env.locals s.heap news) (hsz : c.length ≤ 1000)
    (h0 : J 0 [] news s.gens)
    (hskip : ∀ i d t ys news₁ g, c.cps[i]? = some d → p i (.str ⟨#[d]⟩ t) = false → J i ys news₁ g → J (i + 1) ys news₁ g)
    (tests : ∀ C D I i d tv ys news₁ h tk g own mC, s.heap.objs.size < C → s.heap.objs.size < D → s.heap.objs.size ≤ I → c.cps[i]? = some d → J i ys news₁ g → (∀ q ∈ news₁, q.1 ∉ [D, C, I]) → (∀ q ∈ own, q.1 ∈ [D, C, I]) →
      Fr h₀ env.locals h m → News h₀ env.locals h (news₁ ++ own) → h.Ns C mC → mC x = some (.str ⟨#[d]⟩ tv) → ∀ E',
      wpAny (model prog w) A (forIn ifs true fun c r => if r = true then do let ok ← isTrue c (compEnvC scope cl C env) (eval c (compEnvC scope cl C env)); pure (ForInStep.yield ok) else pure (ForInStep.yield r))
        (fun ok s₃ => ok = p i (.str ⟨#[d]⟩ tv) ∧ ∃ h' tk', s₃ = { s with heap := h', toks := tk', gens := g } ∧ Fr h₀ env.locals h' m ∧ News h₀ env.locals h' (news₁ ++ own)) E' { s with heap := h, toks := tk, gens := g })
    (helt : ∀ C D I i d tv ys news₁ h tk g own mC, s.heap.objs.size < C → s.heap.objs.size < D → s.heap.objs.size ≤ I → c.cps[i]? = some d → p i (.str ⟨#[d]⟩ tv) = true → J i ys news₁ g → (∀ q ∈ news₁, q.1 ∉ [D, C, I]) → (∀ q ∈ own, q.1 ∈ [D, C, I]) →
      Fr h₀ env.locals h m → News h₀ env.locals h (news₁ ++ own) → h.Ns C mC → mC x = some (.str ⟨#[d]⟩ tv) → ∀ E',
      wpAny (model prog w) A (eval elt (compEnvC scope cl C env)) (EltEnd h₀ env.locals m [D, C, I] own (fun y => J (i + 1) (ys ++ [y])) s) E' { s with heap := h, toks := tk, gens := g })
    (done : ∀ D h' tk g news' ys k, s.heap.objs.size < D → Fr h₀ env.locals h' (mf m D) → News h₀ env.locals h' ((D, W.listOf ys.toArray k) :: news') → (∀ q ∈ news', q.1 ≠ D) → J c.length ys news' g → Q D { s with heap := h', toks := tk, gens := g }) :
    wpAny (model prog w) A (pyIter (.str c t)) (fun it s₂ => CompGE prog w A h₀ env scope cl x ifs elt mf Q it s₂) E s := by
  refine wpAny_pyIter_str fun o St W hst => ?_
  have sz : ∀ o, (s.heap.push o).objs.size = s.heap.objs.size + 1 := fun o => Heap.size_push ..
  refine ⟨_, _, _, _, _, _, m, news, p, J, rfl, ⟨W A hh, hsz, ?_, ?_, ?_, ?_, hst, F.push _, (fun p hp => ⟨Heap.get?_push_of_some _ (N p hp).1, (N p hp).2⟩), h0, ?_, ?_, ?_⟩, ?_⟩
  · intro b hb
    show b < (s.heap.push _).objs.size
    rw [sz, List.mem_singleton.mp hb]; exact Nat.lt_succ_self _
  · intro hb
    exact absurd F.ns.lt ((List.mem_singleton.mp hb) ▸ Nat.lt_irrefl _)
  · intro b hb
    rw [List.mem_singleton.mp hb]
    exact next_is_new F
  · intro p hp hI
    exact absurd (Heap.lt_size (N p hp).1) ((List.mem_singleton.mp hI) ▸ Nat.lt_irrefl _)
  · intro i v ys news₁ g hi hP hp hJ
    obtain ⟨d, tv, hd, rfl⟩ := hP
    exact hskip i d tv ys news₁ g hd hp hJ
  · intro C D i v ys news₁ h tk g own mC hC hD hi hP hJ h1 h2 F N hn hm E'
    obtain ⟨d, tv, hd, rfl⟩ := hP
    have hC' : s.heap.objs.size < C := by have : (s.heap.push _).objs.size ≤ C := hC; rw [sz] at this; lia  
    have hD' : s.heap.objs.size < D := by have : (s.heap.push _).objs.size ≤ D := hD; rw [sz] at this; lia  
    exact tests C D s.heap.objs.size i d tv ys news₁ h tk g own mC hC' hD' (Nat.le_refl _) hd hJ h1 h2 F N hn hm E'
  · intro C D i v ys news₁ h tk g own mC hC hD hi hP hp hJ h1 h2 F N hn hm E'
    obtain ⟨d, tv, hd, rfl⟩ := hP
    have hC' : s.heap.objs.size < C := by have : (s.heap.push _).objs.size ≤ C := hC; rw [sz] at this; lia  
    have hD' : s.heap.objs.size < D := by have : (s.heap.push _).objs.size ≤ D := hD; rw [sz] at this; lia  
    exact helt C D s.heap.objs.size i d tv ys news₁ h tk g own mC hC' hD' (Nat.le_refl _) hd hp hJ h1 h2 F N hn hm E'
  · intro D h' tk g news' ys k hD F' N' hq hJ
    have hD' : s.heap.objs.size < D := by have : (s.heap.push _).objs.size ≤ D := hD; rw [sz] at this; lia  
    exact done D h' tk g news' ys k hD' F' N' hq hJ
end
end
end Mine
end
section
open PySem PySem.W PyProof.Rows
open PySem.Builtin PySem.Builtin.Str
set_option maxRecDepth 100000
set_option maxHeartbeats 8000000
namespace Mine
theorem occ1_iff (x y : Str) (lo hi : Nat) : (occurrences x y lo hi 1) ≠ [] ↔ ∃ i, lo ≤ i ∧ i + y.length ≤ hi ∧ subAt x y i = true := by
  rw [StrLaws.occ_eq]
  have key := StrLaws.occ_none x y hi (List.range' lo (hi + 1 - lo)) lo (fun i hi => by rw [List.mem_range'_1] at hi; lia  )
  constructor
  · intro h
    refine Classical.byContradiction fun hn => ?_
    have h0 := key.mpr fun i hi hc => hn ⟨i, by rw [List.mem_range'_1] at hi; lia  , hc⟩
    rw [h0] at h
    exact h rfl
  · rintro ⟨i, h0, h1, h2⟩ h
    have : (forIn (List.range' lo (hi + 1 - lo)) ((#[] : Array Nat), lo) (StrLaws.occBody x y hi 1)).run.fst = #[] := Array.ext' h
    exact key.mp this i (by rw [List.mem_range'_1]; lia  ) ⟨h1, h2⟩
theorem find4_nonneg (x y : Str) (i j : Int) : 0 ≤ find4 x y i j ↔ ∃ k, fromIndex x.length i ≤ k ∧ k + y.length ≤ min (fromIndex x.length j) x.length ∧ subAt x y k = true := by
  rw [← occ1_iff]
  unfold find4
  cases occurrences x y (fromIndex x.length i) (min (fromIndex x.length j) x.length) 1 with
  | nil => simp
  | cons k _ => simp
theorem fromIndex_nat (n k : Nat) : fromIndex n (k : Int) = k := by
  unfold fromIndex
  rw [if_neg (by lia  )]
  lia  
theorem subAt_nil {x y : Str} {i : Nat} (h : y.length = 0) : subAt x y i = true := by
  have : y.cps = #[] := Array.eq_empty_of_size_eq_zero h
  unfold subAt
  rw [h, this]
  simp
  exact Nat.min_le_left _ _
theorem find4_empty {x y : Str} {i j : Nat} (h : y.length = 0) (hij : i ≤ j) (hj : j ≤ x.length) : 0 ≤ find4 x y i j := by
  rw [find4_nonneg, fromIndex_nat, fromIndex_nat]
  exact ⟨i, Nat.le_refl _, by lia  , subAt_nil h⟩
theorem starts_le {x y : Str} (h : Txt.startswith x y = true) : y.length ≤ x.length := by
  unfold Txt.startswith at h
  simp at h
  lia  
theorem ends_le {x y : Str} (h : Txt.endswith x y = true) : y.length ≤ x.length := by
  unfold Txt.endswith at h
  simp at h
  lia  
end Mine
namespace Mine
theorem frame1 {m₁ m₀ : Str → Option Value} {x : Str} {v : Option Value} (h : ∀ z, z ≠ x → m₁ z = m₀ z) : (fun y => if y = x then v else m₁ y) = fun y => if y = x then v else m₀ y := by
  funext y
  by_cases e : y = x
  · simp [e]
  · simp [e, h y e]
theorem frame1_next {m₀ : Str → Option Value} {x : Str} {v : Option Value} : ∀ z, z ≠ x → (fun y => if y = x then v else m₀ y) z = m₀ z := fun z h => by simp [h]
theorem range_size {a b : Int} {n : Nat} (h : b - a = n) : Builtin.Range.rangeSize a b 1 = (n : Int) := by
  unfold Builtin.Range.rangeSize
  split
  · split
    · simp; lia  
    · lia  
  · lia  
theorem range_small {a b : Int} (h0 : 0 ≤ a) (h1 : a ≤ 1000000) (h2 : 0 ≤ b) (h3 : b ≤ 1000000) : Builtin.Range.small a b 1 = true := by
  have hs : Builtin.Range.rangeSize a b 1 ≤ 1000000 ∧ 0 ≤ Builtin.Range.rangeSize a b 1 := by
    unfold Builtin.Range.rangeSize
    split
    · split
      · simp; lia  
      · lia  
    · lia  
  unfold Builtin.Range.small Builtin.Range.rangeFitsLong
  simp only [Bool.and_eq_true, Bool.or_eq_true, decide_eq_true_eq, beq_iff_eq]
  refine ⟨⟨⟨⟨?_, ?_⟩, ?_⟩, ?_⟩, .inr ?_⟩
  all_goals (try rw [if_pos (by decide)])
  all_goals (try simp only [Bool.and_eq_true, decide_eq_true_eq])
  all_goals lia  
theorem refr {h₀ h : Heap} {L : Addr} {m m' : Str → Option Value} (F : Fr h₀ L h m) (e : m = m') : Fr h₀ L h m' := e ▸ F
theorem look2 (p q : Str) (v w : Value) : (fun y => List.lookup y [(p, v), (q, w)]) = fun y => if y = p then some v else if y = q then some w else none := by
  funext y
  by_cases e : y = p
  · rw [if_pos e, e]; simp [List.lookup]
  · rw [if_neg e]
    have e1 : (y == p) = false := by simpa using e
    by_cases e' : y = q
    · rw [if_pos e', List.lookup, e1, List.lookup, e']; simp
    · have e2 : (y == q) = false := by simpa using e'
      rw [if_neg e', List.lookup, e1, List.lookup, e2]; rfl
end Mine
end
section
open PySem PySem.W PyProof.Rows
open PySem.Builtin PySem.Builtin.Str
set_option maxRecDepth 100000
set_option maxHeartbeats 8000000
namespace Mine

local macro_rules | `(tactic| walk_at "call builtin:str.split") => `(tactic| (k_here; (rename Txt.split _ _ = _ => hsp); (refine KSpl.split1 (by k_asm) (by k_asm) (by decide) ?_ (by size_fits)); intro D' l' h' k' e' a' F' N' l1; (try k_lt l1); rw [hsp] at e'; (kspl_open e'); (simp only [strValues, List.map_cons, List.map_nil] at N' a')))
local macro_rules | `(tactic| walk_at "call builtin:str.find") => `(tactic| (refine call_find4 ?_; intro _ _))
local macro_rules | `(tactic| walk_at "truthy str") => `(tactic| (first | refine truthy_pos (by omega) (by omega) ?_ | refine truthy_nil (by omega) ?_); intro _)
local macro_rules | `(tactic| walk_at "exec For Name Name cons nil") => `(tactic| (k_here; (rename Fr _ _ _ _ => lF'); (with_unfolding_all refine' For_G lF' ?k1 ?k2 ?_; (case k1 => exact rfl); (case k2 => exact rfl); k_whole)))

/-- the names that the top of the law's call leaves free: as the walk of a law that makes defs has it -/
noncomputable abbrev LLo : List Str := looseW Mine.hd.view_39 [] ++ (recsOf Mine.hd.view_39).map (fun x => x.name) ++ (litsOf Mine.hd.view_39).map (fun x => x.1) ++ (clssOf Mine.hd.view_39 (looseW Mine.hd.view_39 [])).map (fun x => x.name)
abbrev EM (w : World) (mean : ExcName → Option Value) (mg mb : Str → Option Value) (news : List (Addr × Obj)) (want : Str) (t1 : Tok) (got : Str) (t2 : Tok) (r : Bool) : Prop :=
  CbClaim PySem.Challenge.rw_re0036_01.row.prog w (Mine.hd.heap_39 w.params) topProg LLo mean mg mb 21 news [] True [.str want t1, .str got t2] (fun _ => .bool r)


theorem em_u (w : World) (mean : ExcName → Option Value) (mg mb : Str → Option Value) (want : Str) (t1 : Tok) (got : Str) (t2 : Tok) (news : List (Addr × Obj)) (a b : Str)
   (hin : (occurrences want (Str.ofString "...") 0 want.length 1).isEmpty = false)
   (hs : Txt.split want (Str.ofString "...") = [a, b]) (hw : want.length ≤ 1000) (hg : got.length ≤ 1000) (ha : 1 ≤ a.length) (ha' : a.length ≤ 1000) (hb : b.length = 0) :
   EM w mean mg mb news want t1 got t2 (Txt.startswith got a) := by
  w_top on
  w_on
  dsimp only [EM]
  k_fill
  dsimp only [CbClaim, CbLists, CbRet]; intros; rename_i hret
  refine wpAny_call ?_
  k_dflt cell_enter
  rename Fr _ _ _ _ => FF
  have FN := refr (m' := fun y => if y = Str.ofString "got" then some (.str got t2) else if y = Str.ofString "want" then some (.str want t1) else none) FF (by with_unfolding_all exact look2 _ _ _ _)
  clear FF
  k_steps
  all_goals (try k_data)
  all_goals first | (exfalso; have := starts_le (x := got) (y := a) (by assumption); omega) | (cb_end hret; done) | skip
  refine' iter_list (fun i m' news' g => g = _ ∧ (i = 0 → m' = _ ∧ news' = _) ∧ (∀ p ∈ news, p ∈ news')) rfl ?F ?N ?hm ⟨rfl, fun _ => ⟨rfl, rfl⟩, ?sub⟩ ?step ?done
  case F => k_asm
  case N => k_asm
  case hm => k_mem
  case sub => intro p hp; repeat (first | exact hp | refine List.Mem.tail _ ?_)
  case step =>
    intro I i v m₁ news₁ h tk g own _ hv hJ hoff _ F N
    obtain ⟨rfl, h1, h2⟩ := hJ
    have hi : i = 0 := by rcases i with _ | i; rfl; simp at hv
    subst hi
    obtain ⟨rfl, rfl⟩ := h1 rfl
    obtain rfl : _ = v := by simpa using hv
    clear hv h1
    (try dsimp only)
    k_steps
    · exfalso; have := find4_empty (x := got) (y := b) (i := a.length) (j := got.length) hb (starts_le (by assumption)) (Nat.le_refl _); omega
    · exact ⟨_, _, _, _, _, rfl, by k_asm, by k_asm, fun p hp hm => hoff p hp (List.mem_singleton.mp hm), rfl, fun h => absurd h (by decide), h2⟩
  case done =>
    rintro h' tk g m' news' F N ⟨rfl, _, hsub⟩
    skip
    have N2 : News _ _ h' news := fun p hp => N p (hsub p hp)
    clear N
    (try dsimp only)
    k_steps
    cb_end hret

theorem em_v (w : World) (mean : ExcName → Option Value) (mg mb : Str → Option Value) (want : Str) (t1 : Tok) (got : Str) (t2 : Tok) (news : List (Addr × Obj)) (a b : Str)
   (hin : (occurrences want (Str.ofString "...") 0 want.length 1).isEmpty = false)
   (hs : Txt.split want (Str.ofString "...") = [a, b]) (hw : want.length ≤ 1000) (hg : got.length ≤ 1000) (ha : a.length = 0) (hb : 1 ≤ b.length) (hb' : b.length ≤ 1000) :
   EM w mean mg mb news want t1 got t2 (Txt.endswith got b) := by
  w_top on
  w_on
  dsimp only [EM]
  k_fill
  dsimp only [CbClaim, CbLists, CbRet]; intros; rename_i hret
  refine wpAny_call ?_
  k_dflt cell_enter
  rename Fr _ _ _ _ => FF
  have FN := refr (m' := fun y => if y = Str.ofString "got" then some (.str got t2) else if y = Str.ofString "want" then some (.str want t1) else none) FF (by with_unfolding_all exact look2 _ _ _ _)
  clear FF
  k_steps
  all_goals (try k_data)
  all_goals first | (exfalso; have := ends_le (x := got) (y := b) (by assumption); omega) | (cb_end hret; done) | skip
  refine' iter_list (fun i m' news' g => g = _ ∧ (i = 0 → m' = _ ∧ news' = _) ∧ (∀ p ∈ news, p ∈ news')) rfl ?F ?N ?hm ⟨rfl, fun _ => ⟨rfl, rfl⟩, ?sub⟩ ?step ?done
  case F => k_asm
  case N => k_asm
  case hm => k_mem
  case sub => intro p hp; repeat (first | exact hp | refine List.Mem.tail _ ?_)
  case step =>
    intro I i v m₁ news₁ h tk g own _ hv hJ hoff _ F N
    obtain ⟨rfl, h1, h2⟩ := hJ
    have hi : i = 0 := by rcases i with _ | i; rfl; simp at hv
    subst hi
    obtain ⟨rfl, rfl⟩ := h1 rfl
    obtain rfl : _ = v := by simpa using hv
    clear hv h1
    (try dsimp only)
    k_steps
    · exfalso; have hl := ends_le (x := got) (y := b) (by assumption); have := find4_empty (x := got) (y := a) (i := 0) (j := got.length - b.length) ha (Nat.zero_le _) (Nat.sub_le _ _); rw [Int.natCast_sub hl] at this; simp at this; omega
    · exact ⟨_, _, _, _, _, rfl, by k_asm, by k_asm, fun p hp hm => hoff p hp (List.mem_singleton.mp hm), rfl, fun h => absurd h (by decide), h2⟩
  case done =>
    rintro h' tk g m' news' F N ⟨rfl, _, hsub⟩
    skip
    have N2 : News _ _ h' news := fun p hp => N p (hsub p hp)
    clear N
    (try dsimp only)
    k_steps
    cb_end hret

theorem em_amb (w : World) (mean : ExcName → Option Value) (mg mb : Str → Option Value) (want : Str) (t1 : Tok) (got : Str) (t2 : Tok) (news : List (Addr × Obj)) (a c b : Str)
   (hin : (occurrences want (Str.ofString "...") 0 want.length 1).isEmpty = false)
   (hs : Txt.split want (Str.ofString "...") = [a, c, b]) (hw : want.length ≤ 1000) (hg : got.length ≤ 1000) (ha : 1 ≤ a.length) (ha' : a.length ≤ 1000) (hb : 1 ≤ b.length) (hb' : b.length ≤ 1000) (hc' : c.length ≤ 1000) :
   EM w mean mg mb news want t1 got t2 (Txt.startswith got a && Txt.endswith got b && decide (a.length + b.length ≤ got.length) && decide (0 ≤ find4 got c a.length ((got.length : Int) - b.length))) := by
  w_top on
  w_on
  dsimp only [EM]
  k_fill
  dsimp only [CbClaim, CbLists, CbRet]; intros; rename_i hret
  refine wpAny_call ?_
  k_dflt cell_enter
  rename Fr _ _ _ _ => FF
  have FN := refr (m' := fun y => if y = Str.ofString "got" then some (.str got t2) else if y = Str.ofString "want" then some (.str want t1) else none) FF (by with_unfolding_all exact look2 _ _ _ _)
  clear FF
  k_steps
  all_goals (try k_data)
  all_goals first | (cb_end hret; done)  | skip
  refine' iter_list (fun i m' news' g => g = _ ∧ (i = 0 → m' = _ ∧ news' = _) ∧ (∀ p ∈ news, p ∈ news') ∧ (i = 1 → 0 ≤ find4 got c a.length ((got.length : Int) - b.length))) rfl ?F ?N ?hm ⟨rfl, fun _ => ⟨rfl, rfl⟩, ?sub⟩ ?step ?done
  case F => k_asm
  case N => k_asm
  case hm => k_mem
  case sub => exact ⟨fun p hp => by repeat (first | exact hp | refine List.Mem.tail _ ?_), fun q => absurd q (by decide)⟩
  case step =>
    intro I i v m₁ news₁ h tk g own _ hv hJ hoff _ F N
    obtain ⟨rfl, h1, h2⟩ := hJ
    have hi : i = 0 := by rcases i with _ | i; rfl; simp at hv
    subst hi
    obtain ⟨rfl, rfl⟩ := h1 rfl
    obtain rfl : _ = v := by simpa using hv
    clear hv h1
    (try dsimp only)
    k_steps
    · dsimp only [TurnPost]; k_steps; cb_end hret
    · exact ⟨_, _, _, _, _, rfl, by k_asm, by k_asm, fun p hp hm => hoff p hp (List.mem_singleton.mp hm), rfl, fun h => absurd h (by decide), h2.1, fun _ => by omega⟩
  case done =>
    rintro h' tk g m' news' F N ⟨rfl, _, hsub, hok⟩
    have hok := hok rfl
    have N2 : News _ _ h' news := fun p hp => N p (hsub p hp)
    clear N
    (try dsimp only)
    k_steps
    cb_end hret

theorem em_ab (w : World) (mean : ExcName → Option Value) (mg mb : Str → Option Value) (want : Str) (t1 : Tok) (got : Str) (t2 : Tok) (news : List (Addr × Obj)) (a b : Str)
   (hin : (occurrences want (Str.ofString "...") 0 want.length 1).isEmpty = false)
   (hs : Txt.split want (Str.ofString "...") = [a, b]) (hw : want.length ≤ 1000) (hg : got.length ≤ 1000) (ha : 1 ≤ a.length) (hb : 1 ≤ b.length) (ha' : a.length ≤ 1000) (hb' : b.length ≤ 1000) :
   EM w mean mg mb news want t1 got t2 (Txt.startswith got a && Txt.endswith got b && decide (a.length + b.length ≤ got.length)) := by
  w_top on
  w_on
  dsimp only [EM]
  k_fill
  dsimp only [CbClaim, CbLists, CbRet]; intros; rename_i hret
  refine wpAny_call ?_
  k_dflt cell_enter
  rename Fr _ _ _ _ => FF
  have FN := refr (m' := fun y => if y = Str.ofString "got" then some (.str got t2) else if y = Str.ofString "want" then some (.str want t1) else none) FF (by with_unfolding_all exact look2 _ _ _ _)
  clear FF
  k_steps
  all_goals (try k_data)
  all_goals (try (cb_end hret))
  refine' iter_list (fun _ m' news' g => m' = _ ∧ news' = _ ∧ g = _) rfl ?F ?N ?hm ⟨rfl, rfl, rfl⟩ ?step ?done
  case F => k_asm
  case N => k_asm
  case hm => k_mem
  case step => intro I i v m₁ news₁ h tk g own _ hv; exact absurd hv (by simp)
  case done =>
    rintro h' tk g m' news' F N ⟨rfl, rfl, rfl⟩
    (try dsimp only)
    k_steps
    cb_end hret

end Mine
end
section
open PySem PySem.W PyProof.Rows
open PySem.Builtin PySem.Builtin.Str
set_option maxRecDepth 100000
namespace Mine
abbrev S (l : List Nat) : Str := ⟨l.toArray⟩
abbrev ls (x : Str) : List Nat := x.cps.toList
theorem S_ls (x : Str) : S (ls x) = x := by cases x; rfl
theorem ls_S (l : List Nat) : ls (S l) = l := rfl
theorem ls_length (x : Str) : (ls x).length = x.length := by simp [ls, Str.length]
theorem S_length (l : List Nat) : (S l).length = l.length := by simp [S, Str.length]
theorem S_append (a b : List Nat) : S a ++ S b = S (a ++ b) := by
  apply Str.ext'
  simp [S, Str.cps_append]
theorem S_inj {a b : List Nat} (h : S a = S b) : a = b := by
  have := congrArg ls h
  simpa [ls] using this
theorem str_ext {x y : Str} (h : ls x = ls y) : x = y := by rw [← S_ls x, ← S_ls y, h]
theorem ls_append (x y : Str) : ls (x ++ y) = ls x ++ ls y := by simp [ls, Str.cps_append]
theorem slice_ab {x : Str} {l u : Option Int} {a b : Nat} (hab : a ≤ b) (hb : b ≤ x.length) (e : strSliceIndices l u 1 x.length = strSliceIndices (some (a : Int)) (some (b : Int)) 1 x.length) :
    Txt.slice x l u = S (((ls x).drop a).take (b - a)) := by
  have h1 : Txt.slice x l u = Txt.slice x (some (a : Int)) (some (b : Int)) := by unfold Txt.slice; rw [e]
  have h2 := slice_closes (x := x) (i := (a : Int)) (j := (b : Int)) ⟨by lia  , by lia  , by rw [ls_length]; lia  ⟩
  rw [h1, beq_iff_eq.mp h2]
  congr 2
  have : ((b : Int) - (a : Int)).toNat = b - a := by lia  
  simp [this]
theorem clip_nat {a n : Nat} (h : a ≤ n) : max (0 : Int) (min (if (a : Int) < 0 then (a : Int) + (n : Int) else (a : Int)) (n : Int)) = (a : Int) := by
  rw [if_neg (Int.not_lt.mpr (Int.natCast_nonneg a)), Int.min_eq_left (Int.ofNat_le.mpr h), Int.max_eq_right (Int.natCast_nonneg a)]
theorem clip_pos {j : Int} {n : Nat} (h : 0 ≤ j) : max (0 : Int) (min (if j < 0 then j + (n : Int) else j) (n : Int)) = ((min j.toNat n : Nat) : Int) := by
  rw [if_neg (Int.not_lt.mpr h)]
  by_cases q : j.toNat ≤ n
  · rw [Nat.min_eq_left q, Int.toNat_of_nonneg h, Int.min_eq_left (by lia  ), Int.max_eq_right h]
  · rw [Nat.min_eq_right (by lia  ), Int.min_eq_right (by lia  ), Int.max_eq_right (Int.natCast_nonneg n)]
theorem clip_neg {k : Int} {n : Nat} (h : 1 ≤ k) : max (0 : Int) (min (if -k < 0 then -k + (n : Int) else -k) (n : Int)) = ((n - k.toNat : Nat) : Int) := by
  rw [if_pos (by lia  )]
  by_cases q : k.toNat ≤ n
  · rw [Int.min_eq_left (by lia  ), Int.max_eq_right (by lia  ), Int.ofNat_sub q, Int.toNat_of_nonneg (by lia  )]; lia  
  · rw [Int.min_eq_left (by lia  ), Int.max_eq_left (by lia  ), Nat.sub_eq_zero_of_le (by lia  )]; rfl
theorem slice_from {x : Str} {i : Int} (h0 : 0 ≤ i) : Txt.slice x (some i) none = S ((ls x).drop i.toNat) := by
  have key : strSliceIndices (some i) none 1 x.length = strSliceIndices (some ((min i.toNat x.length : Nat) : Int)) (some ((x.length : Nat) : Int)) 1 x.length := by
    simp only [strSliceIndices, show (1 : Int) > 0 from by decide, if_true]
    rw [clip_pos h0, clip_nat (Nat.min_le_right _ _), clip_nat (Nat.le_refl _)]
  rw [slice_ab (a := min i.toNat x.length) (b := x.length) (by lia  ) (Nat.le_refl _) key]
  apply congrArg S
  rw [List.take_of_length_le (by rw [List.length_drop, ls_length]; lia  )]
  by_cases h : i.toNat ≤ x.length
  · rw [Nat.min_eq_left h]
  · rw [Nat.min_eq_right (by lia  ), List.drop_of_length_le (by rw [ls_length]; lia  ), List.drop_of_length_le (by rw [ls_length]; lia  )]
theorem slice_upto {x : Str} {j : Int} (h0 : 0 ≤ j) : Txt.slice x none (some j) = S ((ls x).take j.toNat) := by
  have key : strSliceIndices none (some j) 1 x.length = strSliceIndices (some ((0 : Nat) : Int)) (some ((min j.toNat x.length : Nat) : Int)) 1 x.length := by
    simp only [strSliceIndices, show (1 : Int) > 0 from by decide, if_true]
    rw [clip_pos h0, clip_nat (Nat.min_le_right _ _), clip_nat (Nat.zero_le _)]; rfl
  rw [slice_ab (a := 0) (b := min j.toNat x.length) (by lia  ) (by lia  ) key]
  apply congrArg S
  rw [List.drop_zero, Nat.sub_zero]
  by_cases h : j.toNat ≤ x.length
  · rw [Nat.min_eq_left h]
  · rw [Nat.min_eq_right (by lia  ), List.take_of_length_le (by rw [ls_length]; lia  ), List.take_of_length_le (by rw [ls_length]; lia  )]
theorem slice_fromNeg {x : Str} {k : Int} (h0 : 1 ≤ k) : Txt.slice x (some (-k)) none = S ((ls x).drop (x.length - k.toNat)) := by
  have key : strSliceIndices (some (-k)) none 1 x.length = strSliceIndices (some ((x.length - k.toNat : Nat) : Int)) (some ((x.length : Nat) : Int)) 1 x.length := by
    simp only [strSliceIndices, show (1 : Int) > 0 from by decide, if_true]
    rw [clip_neg h0, clip_nat (Nat.sub_le _ _), clip_nat (Nat.le_refl _)]
  rw [slice_ab (a := x.length - k.toNat) (b := x.length) (by lia  ) (Nat.le_refl _) key]
  apply congrArg S
  rw [List.take_of_length_le (by rw [List.length_drop, ls_length]; lia  )]
theorem slice_uptoNeg {x : Str} {k : Int} (h0 : 1 ≤ k) : Txt.slice x none (some (-k)) = S ((ls x).take (x.length - k.toNat)) := by
  have key : strSliceIndices none (some (-k)) 1 x.length = strSliceIndices (some ((0 : Nat) : Int)) (some ((x.length - k.toNat : Nat) : Int)) 1 x.length := by
    simp only [strSliceIndices, show (1 : Int) > 0 from by decide, if_true]
    rw [clip_neg h0, clip_nat (Nat.sub_le _ _), clip_nat (Nat.zero_le _)]; rfl
  rw [slice_ab (a := 0) (b := x.length - k.toNat) (by lia  ) (by lia  ) key]
  simp

/-! where texts stand in texts -/
theorem starts_ls (x y : Str) : Txt.startswith x y = (ls y).isPrefixOf (ls x) := by
  unfold Txt.startswith
  rw [StrLaws.subAt_eq]
  by_cases h : ls y <+: ls x
  · have h1 := List.prefix_iff_eq_take.mp h
    have h2 := h.length_le
    rw [ls_length, ls_length] at h2
    rw [List.isPrefixOf_iff_prefix.mpr h]
    simp only [Nat.zero_add, List.drop_zero, Bool.and_eq_true, decide_eq_true_eq, beq_iff_eq]
    refine ⟨h2, ?_⟩
    rw [ls_length] at h1
    exact h1.symm
  · have : (ls y).isPrefixOf (ls x) = false := by
      rw [Bool.eq_false_iff]; exact fun q => h (List.isPrefixOf_iff_prefix.mp q)
    rw [this, Bool.eq_false_iff]
    intro q
    simp only [Nat.zero_add, List.drop_zero, Bool.and_eq_true, decide_eq_true_eq, beq_iff_eq] at q
    have e : (ls x).take y.length = ls y := q.2
    exact h (e ▸ List.take_prefix _ _)
theorem ends_ls (x y : Str) : Txt.endswith x y = (ls y).isSuffixOf (ls x) := by
  unfold Txt.endswith
  rw [StrLaws.subAt_eq]
  by_cases h : ls y <:+ ls x
  · have h1 := List.suffix_iff_eq_drop.mp h
    have h2 := h.length_le
    rw [ls_length, ls_length] at h2
    rw [List.isSuffixOf_iff_suffix.mpr h]
    simp only [Nat.zero_add, Bool.and_eq_true, decide_eq_true_eq, beq_iff_eq]
    refine ⟨h2, ?_⟩
    rw [ls_length, ls_length] at h1
    show ((ls x).drop (x.length - y.length)).take y.length = ls y
    rw [← h1, ← ls_length y, List.take_length]
  · have : (ls y).isSuffixOf (ls x) = false := by
      rw [Bool.eq_false_iff]; exact fun q => h (List.isSuffixOf_iff_suffix.mp q)
    rw [this, Bool.eq_false_iff]
    intro q
    simp only [Nat.zero_add, Bool.and_eq_true, decide_eq_true_eq, beq_iff_eq] at q
    have e : ((ls x).drop (x.length - y.length)).take y.length = ls y := q.2
    rw [List.take_of_length_le (by rw [List.length_drop, ls_length]; lia  )] at e
    exact h (e ▸ List.drop_suffix _ _)

/-! three dots -/
abbrev dots : Str := Str.ofString "..."
theorem ls_dots : ls dots = [46, 46, 46] := by decide +kernel
theorem dots_length : dots.length = 3 := by decide +kernel
noncomputable def nodot (l : List Nat) : Prop := 46 ∉ l
theorem nodot_get {l : List Nat} (h : nodot l) {i : Nat} : l[i]? ≠ some 46 := fun e => h (List.mem_of_getElem? e)
theorem at_dots (x : Str) (k : Nat) : StrLaws.At x dots x.length k ↔ (ls x)[k]? = some 46 ∧ (ls x)[k + 1]? = some 46 ∧ (ls x)[k + 2]? = some 46 := by
  unfold StrLaws.At
  rw [StrLaws.subAt_eq, dots_length, beq_iff_eq]
  rw [show dots.cps.toList = [46, 46, 46] from ls_dots]
  constructor
  · rintro ⟨_, e⟩
    have g : ∀ i, i < 3 → (ls x)[k + i]? = ([46, 46, 46] : List Nat)[i]? := fun i hi => by
      rw [← e, List.getElem?_take_of_lt hi, List.getElem?_drop]
    exact ⟨g 0 (by decide), g 1 (by decide), g 2 (by decide)⟩
  · rintro ⟨a, b, c⟩
    have hl : k + 2 < (ls x).length := (List.getElem?_eq_some_iff.mp c).1
    refine ⟨by rw [← ls_length]; lia  , ?_⟩
    apply List.ext_getElem?
    intro i
    rcases i with _ | _ | _ | i
    · rw [List.getElem?_take_of_lt (by decide), List.getElem?_drop]; exact a
    · rw [List.getElem?_take_of_lt (by decide), List.getElem?_drop]; exact b
    · rw [List.getElem?_take_of_lt (by decide), List.getElem?_drop]; exact c
    · rw [List.getElem?_eq_none (by rw [List.length_take]; lia  )]; simp
theorem kind_dots (x : Str) : ¬ Builtin.Str.strKind x < Builtin.Str.strKind dots := by
  have : Builtin.Str.strKind dots = 1 := by decide +kernel
  rw [this]
  unfold Builtin.Str.strKind
  split <;> (try split) <;> lia  
theorem split_cuts {x : Str} {cuts : List Nat} (hx : 3 ≤ x.length) (hc : occurrences x dots 0 x.length (x.length + 1) = cuts) (hne : cuts ≠ []) : Txt.split x dots = StrLaws.partsFrom x 3 0 cuts := by
  unfold Txt.split
  rw [if_neg (by simp only [Bool.or_eq_true, decide_eq_true_eq, dots_length]; intro q; rcases q with q | q; lia  ; exact kind_dots x q), hc, if_neg (by simpa using hne), StrLaws.partsBetween_eq, dots_length]
theorem in_of_at {x : Str} {k : Nat} (h : StrLaws.At x dots x.length k) : (occurrences x dots 0 x.length 1).isEmpty = false := by
  have := (StrLaws.found_iff x dots).mpr ⟨k, h.1, h.2⟩
  simpa using this
theorem sub_ls (x : Str) (a b : Nat) : strSub x a b = S (((ls x).drop a).take (b - a)) := str_ext (StrLaws.strSub_toList x a b)

theorem get3 (a b : List Nat) (ha : nodot a) (hb : nodot b) (i : Nat) : (a ++ ([46, 46, 46] ++ b))[i]? = some 46 ↔ a.length ≤ i ∧ i < a.length + 3 := by
  constructor
  · intro e
    by_cases h1 : i < a.length
    · rw [List.getElem?_append_left h1] at e; exact absurd e (nodot_get ha)
    · rw [List.getElem?_append_right (by lia  )] at e
      by_cases h2 : i - a.length < 3
      · lia  
      · rw [List.getElem?_append_right (by simp; lia  )] at e; exact absurd e (nodot_get hb)
  · rintro ⟨h1, h2⟩
    rw [List.getElem?_append_right h1, List.getElem?_append_left (by simp; lia  )]
    have : i - a.length = 0 ∨ i - a.length = 1 ∨ i - a.length = 2 := by lia  
    rcases this with h | h | h <;> rw [h] <;> rfl
theorem split_two {a b : List Nat} (ha : nodot a) (hb : nodot b) :
    Txt.split (S (a ++ ([46, 46, 46] ++ b))) dots = [S a, S b] ∧ (occurrences (S (a ++ ([46, 46, 46] ++ b))) dots 0 (S (a ++ ([46, 46, 46] ++ b))).length 1).isEmpty = false := by
  let x := S (a ++ ([46, 46, 46] ++ b))
  have hl : x.length = a.length + 3 + b.length := by show (S _).length = _; rw [S_length]; simp; lia  
  have hat : ∀ k, StrLaws.At x dots x.length k ↔ k = a.length := fun k => by
    rw [at_dots]
    show (a ++ ([46, 46, 46] ++ b))[k]? = some 46 ∧ (a ++ ([46, 46, 46] ++ b))[k + 1]? = some 46 ∧ (a ++ ([46, 46, 46] ++ b))[k + 2]? = some 46 ↔ _
    rw [get3 a b ha hb, get3 a b ha hb, get3 a b ha hb]
    lia  
  obtain ⟨f, hc, hf⟩ := StrLaws.occ_tight x dots (by rw [dots_length]; decide)
  have hcut : occurrences x dots 0 x.length (x.length + 1) = [a.length] := by
    revert hc
    generalize occurrences x dots 0 x.length (x.length + 1) = cuts
    intro hc
    match cuts, hc with
    | [], hc => exact absurd ((hat a.length).mpr rfl) (hf _ (by have : f = 0 := hc; lia  ))
    | [c], hc => rw [(hat c).mp hc.2.1]
    | c :: d :: r, hc =>
      have h1 := (hat c).mp hc.2.1
      have h2 := (hat d).mp hc.2.2.2.2.1
      have h3 := hc.2.2.2.1
      rw [dots_length] at h3
      lia  
  refine ⟨?_, in_of_at ((hat a.length).mpr rfl)⟩
  show Txt.split x dots = _
  rw [split_cuts (by lia  ) hcut (by simp)]
  show [strSub x 0 a.length, strSub x (a.length + 3) x.length] = _
  rw [sub_ls, sub_ls]
  have e : ls x = a ++ ([46, 46, 46] ++ b) := rfl
  rw [e, hl]
  have e1 : ((a ++ ([46, 46, 46] ++ b)).drop 0).take (a.length - 0) = a := by simp
  have e2 : ((a ++ ([46, 46, 46] ++ b)).drop (a.length + 3)).take (a.length + 3 + b.length - (a.length + 3)) = b := by
    rw [List.drop_append, List.drop_of_length_le (by lia  )]
    simp
  rw [e1, e2]
theorem get33 (a c b : List Nat) (ha : nodot a) (hc : nodot c) (hb : nodot b) (i : Nat) : (a ++ ([46, 46, 46] ++ (c ++ ([46, 46, 46] ++ b))))[i]? = some 46 ↔ (a.length ≤ i ∧ i < a.length + 3) ∨ (a.length + 3 + c.length ≤ i ∧ i < a.length + 3 + c.length + 3) := by
  by_cases h1 : i < a.length
  · rw [List.getElem?_append_left h1]
    constructor
    · intro e; exact absurd e (nodot_get ha)
    · intro e; lia  
  · rw [List.getElem?_append_right (by lia  )]
    by_cases h2 : i - a.length < 3
    · rw [List.getElem?_append_left (by simp; lia  )]
      have : i - a.length = 0 ∨ i - a.length = 1 ∨ i - a.length = 2 := by lia  
      constructor
      · intro _; lia  
      · intro _; rcases this with h | h | h <;> rw [h] <;> rfl
    · rw [List.getElem?_append_right (by simp; lia  ), get3 c b hc hb]
      simp
      lia  
theorem split_three {a c b : List Nat} (ha : nodot a) (hc : nodot c) (hb : nodot b) (hc1 : 1 ≤ c.length) :
    Txt.split (S (a ++ ([46, 46, 46] ++ (c ++ ([46, 46, 46] ++ b))))) dots = [S a, S c, S b] ∧ (occurrences (S (a ++ ([46, 46, 46] ++ (c ++ ([46, 46, 46] ++ b))))) dots 0 (S (a ++ ([46, 46, 46] ++ (c ++ ([46, 46, 46] ++ b))))).length 1).isEmpty = false := by
  let x := S (a ++ ([46, 46, 46] ++ (c ++ ([46, 46, 46] ++ b))))
  have hl : x.length = a.length + 3 + c.length + 3 + b.length := by show (S _).length = _; rw [S_length]; simp; lia  
  have hat : ∀ k, StrLaws.At x dots x.length k ↔ k = a.length ∨ k = a.length + 3 + c.length := fun k => by
    rw [at_dots]
    show (a ++ ([46, 46, 46] ++ (c ++ ([46, 46, 46] ++ b))))[k]? = some 46 ∧ (a ++ ([46, 46, 46] ++ (c ++ ([46, 46, 46] ++ b))))[k + 1]? = some 46 ∧ (a ++ ([46, 46, 46] ++ (c ++ ([46, 46, 46] ++ b))))[k + 2]? = some 46 ↔ _
    rw [get33 a c b ha hc hb, get33 a c b ha hc hb, get33 a c b ha hc hb]
    lia  
  obtain ⟨f, hch, hf⟩ := StrLaws.occ_tight x dots (by rw [dots_length]; decide)
  have hcut : occurrences x dots 0 x.length (x.length + 1) = [a.length, a.length + 3 + c.length] := by
    revert hch
    generalize occurrences x dots 0 x.length (x.length + 1) = cuts
    intro hch
    match cuts, hch with
    | [], hch => exact absurd ((hat a.length).mpr (.inl rfl)) (hf _ (by have : f = 0 := hch; lia  ))
    | [d], hch =>
      exfalso
      have h1 := (hat d).mp hch.2.1
      have h3 : f = d + dots.length := hch.2.2.2
      rw [dots_length] at h3
      rcases h1 with h1 | h1
      · exact hf (a.length + 3 + c.length) (by lia  ) ((hat _).mpr (.inr rfl))
      · exact hch.2.2.1 a.length (by lia  ) (by lia  ) ((hat _).mpr (.inl rfl))
    | [d, e], hch =>
      have h1 := (hat d).mp hch.2.1
      have h2 := (hat e).mp hch.2.2.2.2.1
      have h3 := hch.2.2.2.1
      rw [dots_length] at h3
      have : d = a.length ∧ e = a.length + 3 + c.length := by lia  
      rw [this.1, this.2]
    | d :: e :: g :: r, hch =>
      exfalso
      have h1 := (hat d).mp hch.2.1
      have h2 := (hat e).mp hch.2.2.2.2.1
      have h3 := hch.2.2.2.1
      have h4 := (hat g).mp hch.2.2.2.2.2.2.2.1
      have h5 := hch.2.2.2.2.2.2.1
      rw [dots_length] at h3 h5
      lia  
  refine ⟨?_, in_of_at ((hat a.length).mpr (.inl rfl))⟩
  show Txt.split x dots = _
  rw [split_cuts (by lia  ) hcut (by simp)]
  show [strSub x 0 a.length, strSub x (a.length + 3) (a.length + 3 + c.length), strSub x (a.length + 3 + c.length + 3) x.length] = _
  rw [sub_ls, sub_ls, sub_ls]
  have e : ls x = a ++ ([46, 46, 46] ++ (c ++ ([46, 46, 46] ++ b))) := rfl
  rw [e, hl]
  have e1 : ((a ++ ([46, 46, 46] ++ (c ++ ([46, 46, 46] ++ b)))).drop 0).take (a.length - 0) = a := by simp
  have e2 : ((a ++ ([46, 46, 46] ++ (c ++ ([46, 46, 46] ++ b)))).drop (a.length + 3)).take (a.length + 3 + c.length - (a.length + 3)) = c := by
    rw [List.drop_append, List.drop_of_length_le (by lia  )]
    simp
  have e3 : ((a ++ ([46, 46, 46] ++ (c ++ ([46, 46, 46] ++ b)))).drop (a.length + 3 + c.length + 3)).take (a.length + 3 + c.length + 3 + b.length - (a.length + 3 + c.length + 3)) = b := by
    rw [List.drop_append, List.drop_of_length_le (by lia  )]
    have : a.length + 3 + c.length + 3 - a.length = 3 + (c.length + 3) := by lia  
    rw [this, List.nil_append, List.drop_append, List.drop_of_length_le (by simp), List.nil_append]
    have : 3 + (c.length + 3) - [46, 46, 46].length = c.length + 3 := by simp
    rw [this, List.drop_append, List.drop_of_length_le (by lia  )]
    simp
  rw [e1, e2, e3]
end Mine
end
section
open PySem PySem.W PyProof.Rows
open PySem.Builtin PySem.Builtin.Str
set_option maxRecDepth 100000
set_option maxHeartbeats 8000000
namespace Mine
/-- what a call of the def at f comes to, from any frame of a def -/
noncomputable def Ct (k : Nat) (w : World) (mean : ExcName → Option Value) (mg mb : Str → Option Value) (f : Addr) (news : List (Addr × Obj)) (vs : List Value)
    (post : Value → List (Addr × Obj) → Array GenState → Array GenState → Prop) : Prop :=
  ∀ (dp un : Nat) (gd : Option (List Code)) (cn : Str) (cs : Scope) (a : Addr) (ccd : Value) (cl : List (Str × Addr)) (outer : List Env) (A₀ : Around) (base h₀ : Heap) (L : Addr) (m : Str → Option Value) (s : Shared) (Q E : Value → Shared → Prop),
    Below A₀ base outer h₀ → Fr h₀ L s.heap m → (Mine.hd.heap_39 w.params).In h₀ → News h₀ L s.heap news → Top topProg LLo mean mg mb h₀ → cs.kind = .function → dp + k < recursionLimit → un + 8 * k < cLine →
    (∀ v news' h' tk' g', post v news' s.gens g' → Fr h₀ L h' m → News h₀ L h' news' → Q v { s with heap := h', toks := tk', gens := g' }) →
    wpAny (model PySem.Challenge.rw_re0036_01.row.prog w) (ktrTop dp un gd cn cs L a ccd cl outer) (call (.ref f) vs) Q E s
section
variable {k : Nat} {w : World} {mean : ExcName → Option Value} {mg mb : Str → Option Value} {f : Addr} {news : List (Addr × Obj)} {vs : List Value} {post : Value → List (Addr × Obj) → Array GenState → Array GenState → Prop}
theorem Ct.use (C : Ct k w mean mg mb f news vs post) {dp un : Nat} {gd : Option (List Code)} {cn : Str} {cs : Scope} {a : Addr} {ccd : Value} {cl : List (Str × Addr)} {outer : List Env} {A₀ : Around} {base h₀ : Heap} {L : Addr} {m : Str → Option Value} {s : Shared} {Q E : Value → Shared → Prop}
    (B : Below A₀ base outer h₀) (F : Fr h₀ L s.heap m) (X : (Mine.hd.heap_39 w.params).In h₀) (N : News h₀ L s.heap news) (T : Top topProg LLo mean mg mb h₀) (hk : cs.kind = .function) (hd : dp + k < recursionLimit) (hu : un + 8 * k < cLine)
    (ret : ∀ v news' h' tk' g', post v news' s.gens g' → Fr h₀ L h' m → News h₀ L h' news' → Q v { s with heap := h', toks := tk', gens := g' }) :
    wpAny (model PySem.Challenge.rw_re0036_01.row.prog w) (ktrTop dp un gd cn cs L a ccd cl outer) (call (.ref f) vs) Q E s := C _ _ _ _ _ _ _ _ _ _ _ _ _ _ _ _ _ B F X N T hk hd hu ret
end
noncomputable def isB (r : Bool) (news : List (Addr × Obj)) : Value → List (Addr × Obj) → Array GenState → Array GenState → Prop := fun v news' g g' => v = .bool r ∧ news' = news ∧ g' = g
theorem em_ct {w : World} {mean : ExcName → Option Value} {mg mb : Str → Option Value} {news : List (Addr × Obj)} {want got : Str} {t1 t2 : Tok} {r : Bool} (C : EM w mean mg mb news want t1 got t2 r) :
    Ct 1 w mean mg mb 21 news [.str want t1, .str got t2] (isB r news) :=
  fun _ _ _ _ _ _ _ _ _ _ _ _ _ _ _ _ _ B F X N T hk hd hu ret => C _ _ _ _ _ _ _ _ _ _ _ _ _ _ _ _ _ B F X N T hk trivial hd hu (fun _ h' tk' F' N' => ret _ _ h' tk' _ ⟨rfl, rfl, rfl⟩ F' N')

section
variable (w : World) (mean : ExcName → Option Value) (mg mb : Str → Option Value) (news : List (Addr × Obj)) (t1 t2 : Tok)
theorem EMu {u got : Str} (hu : nodot (ls u)) (h1 : 1 ≤ u.length) (h2 : u.length ≤ 900) (hg : got.length ≤ 1000) : Ct 1 w mean mg mb 21 news [.str (u ++ Str.ofString "...") t1, .str got t2] (isB (Txt.startswith got u) news) := by
  have e : u ++ Str.ofString "..." = S (ls u ++ ([46, 46, 46] ++ [])) := by
    rw [List.append_nil, ← ls_dots, ← S_append, S_ls, S_ls]
  rw [e]
  obtain ⟨hs, hin⟩ := split_two (a := ls u) (b := []) hu (by simp [nodot])
  rw [S_ls] at hs
  exact em_ct (em_u w mean mg mb _ t1 got t2 news u (S []) hin hs (by rw [S_length]; simp only [List.length_append, List.length_cons, List.length_nil, ls_length]; lia  ) hg h1 (by lia  ) (by simp [S_length]))
theorem EMv {u got : Str} (hu : nodot (ls u)) (h1 : 1 ≤ u.length) (h2 : u.length ≤ 900) (hg : got.length ≤ 1000) : Ct 1 w mean mg mb 21 news [.str (Str.ofString "..." ++ u) t1, .str got t2] (isB (Txt.endswith got u) news) := by
  have e : Str.ofString "..." ++ u = S ([] ++ ([46, 46, 46] ++ ls u)) := by
    rw [List.nil_append, ← ls_dots, ← S_append, S_ls, S_ls]
  rw [e]
  obtain ⟨hs, hin⟩ := split_two (a := []) (b := ls u) (by simp [nodot]) hu
  rw [S_ls] at hs
  exact em_ct (em_v w mean mg mb _ t1 got t2 news (S []) u hin hs (by rw [S_length]; simp only [List.length_append, List.length_cons, List.length_nil, ls_length]; lia  ) hg (by simp [S_length]) h1 (by lia  ))
theorem EMab {a b got : Str} (ha : nodot (ls a)) (hb : nodot (ls b)) (h1 : 1 ≤ a.length) (h2 : a.length ≤ 400) (h3 : 1 ≤ b.length) (h4 : b.length ≤ 400) (hg : got.length ≤ 1000) :
    Ct 1 w mean mg mb 21 news [.str (a ++ Str.ofString "..." ++ b) t1, .str got t2] (isB (Txt.startswith got a && Txt.endswith got b && decide (a.length + b.length ≤ got.length)) news) := by
  have e : a ++ Str.ofString "..." ++ b = S (ls a ++ ([46, 46, 46] ++ ls b)) := by
    rw [← ls_dots, ← S_append, ← S_append, S_ls, S_ls, S_ls, Str.append_assoc]
  rw [e]
  obtain ⟨hs, hin⟩ := split_two (a := ls a) (b := ls b) ha hb
  rw [S_ls, S_ls] at hs
  exact em_ct (em_ab w mean mg mb _ t1 got t2 news a b hin hs (by rw [S_length]; simp only [List.length_append, List.length_cons, List.length_nil, ls_length]; lia  ) hg h1 h3 (by lia  ) (by lia  ))
theorem EMamb {a c b got : Str} (ha : nodot (ls a)) (hc : nodot (ls c)) (hb : nodot (ls b)) (h1 : 1 ≤ a.length) (h2 : a.length ≤ 300) (h3 : 1 ≤ b.length) (h4 : b.length ≤ 300) (h5 : 1 ≤ c.length) (h6 : c.length ≤ 300) (hg : got.length ≤ 1000) :
    Ct 1 w mean mg mb 21 news [.str (a ++ Str.ofString "..." ++ c ++ Str.ofString "..." ++ b) t1, .str got t2] (isB (Txt.startswith got a && Txt.endswith got b && decide (a.length + b.length ≤ got.length) && decide (0 ≤ find4 got c a.length ((got.length : Int) - b.length))) news) := by
  have e : a ++ Str.ofString "..." ++ c ++ Str.ofString "..." ++ b = S (ls a ++ ([46, 46, 46] ++ (ls c ++ ([46, 46, 46] ++ ls b)))) := by
    rw [← ls_dots, ← S_append, ← S_append, ← S_append, ← S_append, S_ls, S_ls, S_ls, S_ls, Str.append_assoc, Str.append_assoc, Str.append_assoc]
  rw [e]
  obtain ⟨hs, hin⟩ := split_three (a := ls a) (c := ls c) (b := ls b) ha hc hb (by rw [ls_length]; exact h5)
  rw [S_ls, S_ls, S_ls] at hs
  exact em_ct (em_amb w mean mg mb _ t1 got t2 news a c b hin hs (by rw [S_length]; simp only [List.length_append, List.length_cons, List.length_nil, ls_length]; lia  ) hg h1 (by lia  ) h3 (by lia  ) (by lia  ))
end
section
variable {k : Nat} {w : World} {mean : ExcName → Option Value} {mg mb : Str → Option Value} {f : Addr} {news : List (Addr × Obj)} {vs : List Value}
/-- as Ct.use, for a def that gives a bool and leaves the ledger as it was: nothing to take apart -/
theorem Ct.useB {r : Bool} {n0 : List (Addr × Obj)} (C : Ct k w mean mg mb f news vs (isB r n0)) {dp un : Nat} {gd : Option (List Code)} {cn : Str} {cs : Scope} {a : Addr} {ccd : Value} {cl : List (Str × Addr)} {outer : List Env} {A₀ : Around} {base h₀ : Heap} {L : Addr} {m : Str → Option Value} {s : Shared} {Q E : Value → Shared → Prop}
    (B : Below A₀ base outer h₀) (F : Fr h₀ L s.heap m) (X : (Mine.hd.heap_39 w.params).In h₀) (N : News h₀ L s.heap news) (T : Top topProg LLo mean mg mb h₀) (hk : cs.kind = .function) (hd : dp + k < recursionLimit) (hu : un + 8 * k < cLine)
    (ret : ∀ h' tk', Fr h₀ L h' m → News h₀ L h' n0 → Q (.bool r) { s with heap := h', toks := tk' }) :
    wpAny (model PySem.Challenge.rw_re0036_01.row.prog w) (ktrTop dp un gd cn cs L a ccd cl outer) (call (.ref f) vs) Q E s :=
  C.use B F X N T hk hd hu fun v n h' tk' g' hp F' N' => by
    obtain ⟨rfl, rfl, rfl⟩ := hp
    exact ret h' tk' F' N'
theorem Ct.useK {v0 : Value} {L0 : Nat → List (Addr × Obj)} (C : Ct k w mean mg mb f news vs (fun v n g g' => g' = g ∧ v = v0 ∧ ∃ kq, n = L0 kq)) {dp un : Nat} {gd : Option (List Code)} {cn : Str} {cs : Scope} {a : Addr} {ccd : Value} {cl : List (Str × Addr)} {outer : List Env} {A₀ : Around} {base h₀ : Heap} {L : Addr} {m : Str → Option Value} {s : Shared} {Q E : Value → Shared → Prop}
    (B : Below A₀ base outer h₀) (F : Fr h₀ L s.heap m) (X : (Mine.hd.heap_39 w.params).In h₀) (N : News h₀ L s.heap news) (T : Top topProg LLo mean mg mb h₀) (hk : cs.kind = .function) (hd : dp + k < recursionLimit) (hu : un + 8 * k < cLine)
    (ret : ∀ kq h' tk', Fr h₀ L h' m → News h₀ L h' (L0 kq) → Q v0 { s with heap := h', toks := tk' }) :
    wpAny (model PySem.Challenge.rw_re0036_01.row.prog w) (ktrTop dp un gd cn cs L a ccd cl outer) (call (.ref f) vs) Q E s :=
  C.use B F X N T hk hd hu fun v n h' tk' g' hp F' N' => by
    obtain ⟨rfl, rfl, kq, rfl⟩ := hp
    exact ret kq h' tk' F' N'
end
theorem room_d {dp k a b r : Nat} (h : dp + k < r) (e : Nat.ble (a + b) k = true) : dp + a + b < r :=
  Nat.lt_of_le_of_lt (by rw [Nat.add_assoc]; exact Nat.add_le_add_left (Nat.le_of_ble_eq_true e) dp) h
theorem room_u {un k a b r : Nat} (h : un + 8 * k < r) (e : Nat.ble (a + 8 * b) (8 * k) = true) : un + a + 8 * b < r :=
  Nat.lt_of_le_of_lt (by rw [Nat.add_assoc]; exact Nat.add_le_add_left (Nat.le_of_ble_eq_true e) un) h
end Mine
end
section
open PySem PySem.W PyProof.Rows
open PySem.Builtin PySem.Builtin.Str
set_option maxRecDepth 100000
namespace Mine
theorem isList_of {h₀ h : Heap} {L l : Addr} {its : Array Value} {k : Nat} {news : List (Addr × Obj)} (N : News h₀ L h news) (hm : (l, W.listOf its k) ∈ news) : h.IsList l its := ⟨_, (N _ hm).1, rfl, k, rfl⟩
/-- two frames that part at the names of a list at most -/
noncomputable def Off (xs : List Str) (m₀ m' : Str → Option Value) : Prop := ∀ z, z ∉ xs → m' z = m₀ z
theorem Off.refl {xs : List Str} {m : Str → Option Value} : Off xs m m := fun _ _ => rfl
theorem Off.put {xs : List Str} {m₀ m' : Str → Option Value} {x : Str} {v : Option Value} (h : Off xs m₀ m') (hx : x ∈ xs) : Off xs m₀ (fun y => if y = x then v else m' y) := fun z hz => by
  have q : z ≠ x := fun e => hz (e ▸ hx)
  show (if z = x then v else m' z) = _
  rw [if_neg q, h z hz]
theorem Off.eq1 {m₁ m₀ : Str → Option Value} {x : Str} {v : Option Value} (h : Off [x] m₀ m₁) : (fun y => if y = x then v else m₁ y) = fun y => if y = x then v else m₀ y := by
  funext y
  by_cases e : y = x
  · rw [if_pos e, if_pos e]
  · rw [if_neg e, if_neg e, h y (by simpa using e)]
theorem Off.eq2 {m₁ m₀ : Str → Option Value} {x a : Str} {v va : Option Value} (h : Off [x, a] m₀ m₁) (ha : m₁ a = va) : (fun y => if y = x then v else m₁ y) = fun y => if y = x then v else if y = a then va else m₀ y := by
  funext y
  by_cases e : y = x
  · rw [if_pos e, if_pos e]
  · rw [if_neg e, if_neg e]
    by_cases e' : y = a
    · rw [if_pos e', e', ha]
    · rw [if_neg e', h y (by simp [e, e'])]
end Mine
end
section
open PySem PySem.W PyProof.Rows
open PySem.Builtin PySem.Builtin.Str
set_option maxRecDepth 100000
set_option maxHeartbeats 8000000
namespace Mine
theorem news_sub {h₀ h : Heap} {L : Addr} {a b : List (Addr × Obj)} (N : News h₀ L h b) (hs : ∀ p ∈ a, p ∈ b) : News h₀ L h a := fun p hp => N p (hs p hp)
theorem ret_isB {h₀ h' : Heap} {L : Addr} {m : Str → Option Value} {news : List (Addr × Obj)} {s : Shared} {Q : Value → Shared → Prop} {r b : Bool} {tk' : Nat}
    (hret : ∀ v news' h' tk' g', isB r news v news' s.gens g' → Fr h₀ L h' m → News h₀ L h' news' → Q v { s with heap := h', toks := tk', gens := g' })
    (e : b = r) (F : Fr h₀ L h' m) (N : News h₀ L h' news) : Q (.bool b) { s with heap := h', toks := tk' } := hret _ _ h' tk' _ ⟨by rw [e], rfl, rfl⟩ F N
theorem bnot_of {a b : Bool} (h : (a != b) = false) : (!(a != b)) = true := by rw [h]; rfl
end Mine
end
section
open PySem PySem.W PyProof.Rows
open PySem.Builtin PySem.Builtin.Str
set_option maxRecDepth 100000
set_option maxHeartbeats 8000000
namespace Mine
noncomputable def isS (r : Str) (news : List (Addr × Obj)) : Value → List (Addr × Obj) → Array GenState → Array GenState → Prop := fun v news' g g' => (∃ t, v = .str r t) ∧ news' = news ∧ g' = g
theorem ret_isS {h₀ h' : Heap} {L : Addr} {m : Str → Option Value} {news : List (Addr × Obj)} {s : Shared} {Q : Value → Shared → Prop} {r b : Str} {t : Tok} {tk' : Nat}
    (hret : ∀ v news' h' tk' g', isS r news v news' s.gens g' → Fr h₀ L h' m → News h₀ L h' news' → Q v { s with heap := h', toks := tk', gens := g' })
    (e : b = r) (F : Fr h₀ L h' m) (N : News h₀ L h' news) : Q (.str b t) { s with heap := h', toks := tk' } := hret _ _ h' tk' _ ⟨⟨t, by rw [e]⟩, rfl, rfl⟩ F N
theorem ls_nil : ls (Str.ofString "") = [] := by decide +kernel
theorem join_nil : ∀ xs : List Str, Str.join (Str.ofString "") xs = S (xs.flatMap ls)
  | [] => by decide +kernel
  | [x] => by show x = _; simp [S_ls]
  | x :: y :: r => by
    have ih := join_nil (y :: r)
    show x ++ Str.ofString "" ++ Str.join (Str.ofString "") (y :: r) = _
    rw [ih]
    apply str_ext
    rw [ls_append, ls_append, ls_nil, ls_S, ls_S]
    simp
theorem flat_len (xs : List Str) : (xs.flatMap ls).length = (xs.map (·.length)).sum := by
  induction xs with
  | nil => rfl
  | cons x xs ih => simp only [List.flatMap_cons, List.length_append, List.map_cons, List.sum_cons, ls_length, ih]
theorem join_led {prog : Program} {w : World} {A : Around} {E : Value → Shared → Prop} {s : Shared} {t : Tok} {Q : Value → Shared → Prop} {h₀ : Heap} {L D : Addr} {ys : List Value} {xs : List Str} {k : Nat} {news : List (Addr × Obj)}
    (N : News h₀ L s.heap news) (hm : (D, W.listOf ys.toArray k) ∈ news) (hi : StrsAre ys xs) (ht : (xs.map (·.length)).sum ≤ 100000)
    (h : ∀ x t' k, x = S (xs.flatMap ls) → x.length ≤ 100000 → Q (.str x t') { s with toks := k }) : wpAny (model prog w) A (call (.builtin "str.join") [.str (Str.ofString "") t, .ref D]) Q E s := by
  have hl : s.heap.IsList D ys.toArray := isList_of N hm
  refine join_list (ys := xs) hl (by simpa using hi) ?_ fun t' k => ?_
  · have : (Str.ofString "").length = 0 := by decide +kernel
    rw [this]; lia  
  · have e : Txt.join (Str.ofString "") xs = S (xs.flatMap ls) := by
      show glued _ _ = _
      rw [StrLaws.glued_eq_join, join_nil]
    rw [e]
    exact h _ t' k rfl (by rw [S_length, flat_len]; exact ht)
theorem take_succ_map {α β : Type} (l : List α) (f : α → β) {i : Nat} {d : α} (h : l[i]? = some d) : (l.take (i + 1)).map f = (l.take i).map f ++ [f d] := by
  rw [List.take_add_one, h]; simp
theorem strsAre_snoc {ys : List Value} {xs : List Str} (h : StrsAre ys xs) (y : Str) (t : Tok) : StrsAre (ys ++ [.str y t]) (xs ++ [y]) := StrsAre.append' h (.cons y t .nil)
theorem sum_le {α : Type} (l : List α) (f : α → Nat) (b : Nat) (h : ∀ a ∈ l, f a ≤ b) : (l.map f).sum ≤ b * l.length := by
  induction l with
  | nil => simp
  | cons a l ih =>
    have h1 := h a (.head _)
    have h2 := ih fun x hx => h x (.tail _ hx)
    simp only [List.map_cons, List.sum_cons, List.length_cons, Nat.mul_succ]
    lia  
theorem sub_char (x : Str) (d i : Nat) : subAt x ⟨#[d]⟩ i = true ∧ i + 1 ≤ x.length ↔ (ls x)[i]? = some d := by
  rw [StrLaws.subAt_eq, beq_iff_eq]
  show ((ls x).drop i).take 1 = [d] ∧ _ ↔ _
  constructor
  · rintro ⟨h, _⟩
    have := congrArg (·[0]?) h
    simpa [List.getElem?_take, List.getElem?_drop] using this
  · intro h
    have hl := (List.getElem?_eq_some_iff.mp h).1
    refine ⟨?_, by rw [← ls_length]; lia  ⟩
    apply List.ext_getElem?
    intro j
    rcases j with _ | j
    · simpa [List.getElem?_take, List.getElem?_drop] using h
    · simp [List.getElem?_take]
theorem occ_char (x : Str) (d : Nat) : (occurrences x ⟨#[d]⟩ 0 x.length 1).isEmpty = !decide (d ∈ ls x) := by
  by_cases h : d ∈ ls x
  · obtain ⟨i, hi⟩ := List.getElem?_of_mem h
    have hl := (List.getElem?_eq_some_iff.mp hi).1
    have := (StrLaws.found_iff x ⟨#[d]⟩).mpr ⟨i, by show i + 1 ≤ _; rw [← ls_length]; lia  , ((sub_char x d i).mpr hi).1⟩
    simp only [h, decide_true, Bool.not_true]
    simpa using this
  · simp only [h, decide_false, Bool.not_false]
    refine Classical.byContradiction fun q => h ?_
    have q' : (!(occurrences x ⟨#[d]⟩ 0 x.length 1).isEmpty) = true := by simpa using q
    obtain ⟨i, h1, h2⟩ := (StrLaws.found_iff x ⟨#[d]⟩).mp q'
    exact List.mem_of_getElem? ((sub_char x d i).mp ⟨h2, h1⟩)
end Mine
end
section
open PySem PySem.W PyProof.Rows
open PySem.Builtin PySem.Builtin.Str
set_option maxRecDepth 100000
set_option maxHeartbeats 8000000
namespace Mine
theorem reframe {g h : Heap} {L : Addr} {m m' : Str → Option Value} (F : Fr g L h m) (e : m = m') : Fr g L h m' := e ▸ F
theorem all_ne {news : List (Addr × Obj)} {d c : Addr} (h : ∀ p ∈ news, p.1 < d) (hle : LE.le (α := Nat) d c) : ∀ p ∈ news, p.1 ≠ c := fun p hp => Nat.ne_of_lt (Nat.lt_of_lt_of_le (h p hp) hle)
theorem allLt_mem {D : Addr} : ∀ {r : List (Addr × Obj)}, AllLt D r → ∀ p ∈ r, p.1 < D
  | [], _, _, hp => by cases hp
  | _ :: _, h, p, hp => by
    rcases List.mem_cons.mp hp with rfl | hp
    · exact h.1
    · exact allLt_mem h.2 p hp
theorem append_led {prog : Program} {w : World} {A : Around} {E : Value → Shared → Prop} {s : Shared} {Q : Value → Shared → Prop} {h₀ : Heap} {L D : Addr} {its : List Value} {k : Nat} {rest : List (Addr × Obj)} {m : Str → Option Value} {v : Value}
    (F : Fr h₀ L s.heap m) (N : News h₀ L s.heap ((D, W.listOf its.toArray k) :: rest)) (hne : ∀ p ∈ rest, p.1 ≠ D) (hsz : its.length ≤ 10000)
    (h : ∀ h' k', Fr h₀ L h' m → News h₀ L h' ((D, W.listOf (its ++ [v]).toArray k') :: rest) → Q .none { s with heap := h' }) : wpAny (model prog w) A (call (.builtin "list.append") [.ref D, v]) Q E s := by
  have hD := N _ (.head _)
  refine wpAny_list_append_plain (hsz := by rw [List.size_toArray]; unfold sizeLine; omega) ⟨k, hD.1⟩ fun h₅ hl₅ hs₅ => ?_
  obtain ⟨k', hl₅⟩ := hl₅
  refine h h₅ k' ⟨F.ns.at' fun o e => hs₅.extBut _ o (Ne.symm hD.2.1) e, fun b o e => hs₅.extBut b o (fun q => by rw [q, hD.2.2] at e; cases e) (F.keep b o e), F.above⟩ fun p hp => ?_
  rcases List.mem_cons.mp hp with rfl | hp
  · exact ⟨by simpa using hl₅, hD.2⟩
  · exact ⟨hs₅.extBut _ _ (hne p hp) (N p (.tail _ hp)).1, (N p (.tail _ hp)).2⟩
end Mine
end
section
open PySem PySem.W PyProof.Rows
open PySem.Builtin PySem.Builtin.Str
set_option maxRecDepth 100000
set_option maxHeartbeats 8000000
namespace Mine
/-! the loops' rules once more, with the iterator known to live -/
section
variable {prog : Program} {w : World} {A : Around} {s : Shared} {env : Env} {h₀ : Heap} {E : Value → Shared → Prop}
theorem forS {R : Result → Shared → Prop} {x : Str} {px : Pos} {body : List Stmt} {I : Addr} {fp wr : List Addr} {n : Nat} {P : Nat → Value → Prop} {St : Nat → Heap → Prop} {m : Str → Option Value}
    {news : List (Addr × Obj)} (W : Walks prog w A I fp wr n P St) (hx : env.kindOf x = some .local)
    (hp : (env.scope.kind == .class || (env.scope.kind == .module && env.locals != env.globals)) = false)
    (hLf : env.locals ∉ fp) (hwr : ∀ b ∈ wr, h₀.get? b = none) (hnw : ∀ p ∈ news, p.1 ∉ wr)
    (hst : St 0 s.heap) (F : Fr h₀ env.locals s.heap m) (N : News h₀ env.locals s.heap news)
    (J : Nat → (Str → Option Value) → List (Addr × Obj) → Array GenState → Prop) (h0 : J 0 m news s.gens)
    (step : ∀ i v m₁ news₁ h tk g own, i < n → P i v → J i m₁ news₁ g → (∀ p ∈ news₁, p.1 ∉ wr) → (∀ p ∈ own, p.1 ∈ fp) →
      St (i + 1) h → Fr h₀ env.locals h (fun y => if y = x then some v else m₁ y) → News h₀ env.locals h (news₁ ++ own) →
      wpAny (model prog w) A (execs body env) (TurnPost h₀ env.locals wr own (J (i + 1)) s fun f s' => R (.ok f) s') (notedBy (model prog w) A env fun e s' => R (.error e) s') { s with heap := h, toks := tk, gens := g })
    (hR : ∀ h' tk g m' news', Fr h₀ env.locals h' m' → News h₀ env.locals h' news' → J n m' news' g → R (.ok .next) { s with heap := h', toks := tk, gens := g }) :
    codeAny (model prog w) A (.forLoop (.Name x px) (.ref I) body [] env) R s := by
  have hLw : env.locals ∉ wr := fun h => hLf (W.sub _ h)
  have old : ∀ b o, h₀.get? b = some o → b ∉ wr := fun b o e hb => by rw [hwr b hb] at e; cases e
  refine codeAny_forLoop
    (ForI St h₀ env.locals wr J n s) ?_ (n + 1)
    ⟨s.heap, s.toks, s.gens, m, news, 0, rfl, hst, F, N, hnw, h0, Nat.zero_le _, rfl⟩
  rintro k s' ⟨h', tk, g, m', news', i, rfl, hst', F', N', hnw', hJ, hi, rfl⟩
  have next : ∀ h₁ : Heap, (∀ b o, b ∉ wr → h'.get? b = some o → h₁.get? b = some o) → Fr h₀ env.locals h₁ m' ∧ News h₀ env.locals h₁ news' := fun h₁ hk₁ =>
    ⟨⟨F'.ns.at' fun o e => hk₁ _ o hLw e, fun b o e => hk₁ b o (old b o e) (F'.keep b o e), F'.above⟩, fun p hp => ⟨hk₁ _ _ (hnw' p hp) (N' p hp).1, (N' p hp).2⟩⟩
  by_cases hlt : i < n
  · refine W.item i _ _ _ hlt hst' fun v h₁ tk₁ hP hst₁ hk₁ => ?_
    obtain ⟨F₁, N₁⟩ := next h₁ hk₁
    refine wpAny_assign_Name (wpAny_storeName_local hx F₁.ns (fun h₂ hn₂ hs₂ => ?_) hp)
    have F₂ := F₁.set hn₂ hs₂
    have Nown : News h₀ env.locals h₂ (ownOf h₀ fp h₂) := news_ownOf hLf
    have hst₂ : St (i + 1) h₂ := W.frame _ _ _ hst₁ fun b hb o e => (hs₂.2 b fun q => hLf (q ▸ hb)).trans e
    refine wpAny_mono (step i v m' news' h₂ _ g (ownOf h₀ fp h₂) hlt hP hJ hnw' ownOf_sub hst₂ F₂ (news_swap (Nown.append (N₁.set hs₂)))) (fun f s₃ h₃ => ?_) fun _ _ e => e
    have fin : TurnEnd h₀ env.locals wr (ownOf h₀ fp h₂) (J (i + 1)) s s₃ → ∃ m_1, m_1 < n + 1 - i ∧ ForI St h₀ env.locals wr J n s m_1 s₃ := by
      rintro ⟨h₃', tk₃, g₃, m₂, news₂, rfl, F₃, N₃, ha₃, hJ₃⟩
      refine ⟨n + 1 - (i + 1), by omega, h₃', tk₃, g₃, m₂, news₂, i + 1, rfl, ?_, F₃, fun p hp => N₃ p (List.mem_append_left _ hp), ha₃, hJ₃, hlt, rfl⟩
      refine W.frame _ _ _ hst₁ fun b hb o e => ?_
      have e₂ : h₂.get? b = some o := (hs₂.2 b fun q => hLf (q ▸ hb)).trans e
      cases hn : h₀.get? b with
      | some o₀ =>
        have : o₀ = o := by have := F₂.keep b o₀ hn; rw [e₂] at this; exact (Option.some.inj this).symm
        exact this ▸ F₃.keep b o₀ hn
      | none => exact (N₃ _ (List.mem_append_right _ (mem_ownOf hb hn e₂))).1
    cases f with
    | ret v => exact h₃
    | brk => exact h₃
    | cont => exact fin h₃
    | next => exact fin h₃
  · have hin : i = n := by omega
    subst hin
    refine W.done _ _ _ hst' fun h₁ tk₁ hk₁ => wpAny_execs_nil ?_
    obtain ⟨F₁, N₁⟩ := next h₁ hk₁
    exact hR h₁ tk₁ g m' news' F₁ N₁ hJ
/-- a loop that stands at its iterator -/
structure LoopS (prog : Program) (w : World) (A : Around) (h₀ : Heap) (env : Env) (x : Str) (body : List Stmt) (Q : Flow → Shared → Prop) (E : Value → Shared → Prop) (I : Addr) (fp wr : List Addr) (n : Nat) (P : Nat → Value → Prop) (St : Nat → Heap → Prop)
    (m : Str → Option Value) (news : List (Addr × Obj)) (J : Nat → (Str → Option Value) → List (Addr × Obj) → Array GenState → Prop) (s₂ : Shared) : Prop where
  W : Walks prog w A I fp wr n P St
  hLf : env.locals ∉ fp
  hwr : ∀ b ∈ wr, h₀.get? b = none
  hnw : ∀ p ∈ news, p.1 ∉ wr
  hst : St 0 s₂.heap
  F : Fr h₀ env.locals s₂.heap m
  N : News h₀ env.locals s₂.heap news
  h0 : J 0 m news s₂.gens
  step : ∀ i v m₁ news₁ h tk g own, i < n → P i v → J i m₁ news₁ g → (∀ p ∈ news₁, p.1 ∉ wr) → (∀ p ∈ own, p.1 ∈ fp) → St (i + 1) h →
      Fr h₀ env.locals h (fun y => if y = x then some v else m₁ y) → News h₀ env.locals h (news₁ ++ own) →
      wpAny (model prog w) A (execs body env) (TurnPost h₀ env.locals wr own (J (i + 1)) s₂ Q) E { s₂ with heap := h, toks := tk, gens := g }
  done : ∀ h' tk g m' news', Fr h₀ env.locals h' m' → News h₀ env.locals h' news' → J n m' news' g → Q .next { s₂ with heap := h', toks := tk, gens := g }

noncomputable def LoopSE (prog : Program) (w : World) (A : Around) (h₀ : Heap) (env : Env) (x : Str) (body : List Stmt) (Q : Flow → Shared → Prop) (E : Value → Shared → Prop) (it : Value) (s₂ : Shared) : Prop :=
  ∃ I fp wr n P St m news J, it = .ref I ∧ LoopS prog w A h₀ env x body Q E I fp wr n P St m news J s₂

theorem For_S {Q : Flow → Shared → Prop} {x : Str} {px pos : Pos} {iter : Expr} {body : List Stmt} {m₀ : Str → Option Value} (_F : Fr h₀ env.locals s.heap m₀) (hx : env.kindOf x = some .local)
    (hp : (env.scope.kind == .class || (env.scope.kind == .module && env.locals != env.globals)) = false)
    (h : wpAny (model prog w) A (eval iter env) (fun xv s₁ => wpAny (model prog w) A (pyIter xv) (fun it s₂ => LoopSE prog w A h₀ env x body Q E it s₂) E s₁) E s)
    (hs : ∀ x, foldedSetIterable iter env x = pure x := by intro _; rfl)
    (hE : PassesOwn (model prog w) A env E := by passes_own) :
    wpAny (model prog w) A (exec (.For (.Name x px) iter body [] pos) env) Q E s := by
  refine wpAny_For (wpAny_mono h (fun xv s₁ h₁ => wpAny_mono h₁ (fun it s₂ h₂ => ?_) fun _ _ e => e) fun _ _ e => e) hs
  obtain ⟨I, fp, wr, n, P, St, m, news, J, rfl, G⟩ := h₂
  refine forS (R := fun r s' => match r with | .ok f => Q f s' | .error e => cameBackBy (model prog w) A env E e s') G.W hx hp G.hLf G.hwr G.hnw G.hst G.F G.N J G.h0 (fun i v m₁ news₁ h tk g own a b c d e st F N => ?_) G.done
  exact wpAny_passesOwn hE (wpAny_mono (G.step i v m₁ news₁ h tk g own a b c d e st F N) (fun _ _ q => q) fun _ _ q => q)

/-- the same over a list of the ledger -/
theorem iter_rangeS {Q : Flow → Shared → Prop} {x : Str} {body : List Stmt} {r : Addr} {a b : Int} {t u v' : Tok} {n : Nat} {m : Str → Option Value} {news : List (Addr × Obj)}
    (J : Nat → (Str → Option Value) → List (Addr × Obj) → Array GenState → Prop) (hh : A.handled = none) (hr : IsRange s.heap r a b 1 t u v') (hn : Builtin.Range.rangeSize a b 1 = (n : Int)) (hsm : Builtin.Range.small a b 1 = true)
    (F : Fr h₀ env.locals s.heap m) (N : News h₀ env.locals s.heap news)
    (h0 : J 0 m news s.gens)
    (step : ∀ I i tv m₁ news₁ h tk g own, s.heap.objs.size ≤ I → i < n → J i m₁ news₁ g → (∀ p ∈ news₁, p.1 ≠ I) → (∀ p ∈ own, p.1 = I) → LT.lt (α := Nat) I h.objs.size →
      Fr h₀ env.locals h (fun y => if y = x then some (.int (a + i) tv) else m₁ y) → News h₀ env.locals h (news₁ ++ own) →
      wpAny (model prog w) A (execs body env) (TurnPost h₀ env.locals [I] own (J (i + 1)) s Q) E { s with heap := h, toks := tk, gens := g })
    (done : ∀ h' tk g m' news', Fr h₀ env.locals h' m' → News h₀ env.locals h' news' → J n m' news' g → Q .next { s with heap := h', toks := tk, gens := g }) :
    wpAny (model prog w) A (pyIter (.ref r)) (fun it s₂ => LoopSE prog w A h₀ env x body Q E it s₂) E s := by
  refine wpAny_pyIter_range hr hsm ?_
  have W := Walks.range (prog := prog) (w := w) hh s.heap.objs.size a 1 n
  refine ⟨_, _, _, _, _, _, m, news, J, rfl, W, ?_, ?_, ?_, ?_, F.push _, (fun p hp => ⟨Heap.get?_push_of_some _ (N p hp).1, (N p hp).2⟩), h0, ?_, ?_⟩
  · intro hb
    exact absurd F.ns.lt ((List.mem_singleton.mp hb) ▸ Nat.lt_irrefl _)
  · intro b hb
    rw [List.mem_singleton.mp hb]
    exact next_is_new F
  · intro p hp hI
    exact absurd (Heap.lt_size (N p hp).1) ((List.mem_singleton.mp hI) ▸ Nat.lt_irrefl _)
  · have := Heap.get?_push_size (h := s.heap) (o := { cls := .type "range_iterator", data := .fields #[rawInt a, rawInt (Builtin.Range.rangeSize a b 1), rawInt 1] }) rfl
    rw [hn] at this ⊢
    simpa [IsRangeIter] using this
  · intro i v m₁ news₁ h tk g own hi hP hJ ha hb st F₁ N₁
    obtain ⟨tv, rfl⟩ := hP
    rw [Int.mul_one] at F₁
    exact step s.heap.objs.size i tv m₁ news₁ h tk g own (Nat.le_refl _) hi hJ (fun p hp e => ha p hp (e ▸ .head _)) (fun p hp => List.mem_singleton.mp (hb p hp)) (Heap.lt_size st) F₁ N₁
  · intro h' tk g m' news' F' N' hJ
    exact done h' tk g m' news' F' N' hJ

end
end Mine
end
section
open PySem PySem.W PyProof.Rows
open PySem.Builtin PySem.Builtin.Str
set_option maxRecDepth 100000
set_option maxHeartbeats 8000000
namespace Mine
/-! pieces of a generator's run -/
section
variable {M : Model} {A : Around} {R : GenEnd} {Y : Protocol} {n : Nat} {s₀ : Shared} {c : Code} {fs : List Frame} {s : Shared} {env : Env} {gd : Bool → Bool} {lv : List Value → List Value}
theorem seg_wbind {α β : Type} {m : Sem α} {f : α → Sem β} {K : β → Sem Fin} {H : Value → Sem Fin}
    (h : wpAny M (A.over c fs) m (fun a s' => Seg M A R Y n s₀ c ((f a).wrap K H gd lv) fs s') (fun x s' => Seg M A R Y n s₀ c (H x) fs s') s) :
    Seg M A R Y n s₀ c ((m >>= f).wrap K H gd lv) fs s := by
  rw [Sem.bind_eq_wrap', Sem.wrap_wrap]; exact seg_wrap h
theorem seg_wpure {α : Type} {a : α} {K : α → Sem Fin} {H : Value → Sem Fin} (h : Seg M A R Y n s₀ c (K a) fs s) : Seg M A R Y n s₀ c ((Pure.pure a : Sem α).wrap K H gd lv) fs s := h
theorem seg_If {test : Expr} {body orelse : List Stmt} {pos : Pos} {K : Flow → Sem Fin} {H : Value → Sem Fin}
    (h : wpAny M (A.over c fs) (isTrue test env (eval test env)) (fun b s' => if b = true then Seg M A R Y n s₀ c ((execs body env).wrap K H gd lv) fs s' else Seg M A R Y n s₀ c ((execs orelse env).wrap K H gd lv) fs s') (fun x s' => Seg M A R Y n s₀ c (H x) fs s') s) :
    Seg M A R Y n s₀ c ((exec (.If test body orelse pos) env).wrap K H gd lv) fs s := by
  rw [exec_If]
  refine seg_wbind (wpAny_standAt (seg_wbind (wpAny_mono h (fun b s' hb => ?_) fun _ _ e => e)))
  cases b with
  | true => rw [if_pos rfl] at hb; simpa using hb
  | false => rw [if_neg (by decide)] at hb; simpa using hb
theorem seg_For {target iter : Expr} {body orelse : List Stmt} {pos : Pos} {K : Flow → Sem Fin} {H : Value → Sem Fin} (hs : ∀ x, foldedSetIterable iter env x = pure x)
    (h : wpAny M (A.over c fs) (eval iter env) (fun x s₁ => wpAny M (A.over c fs) (pyIter x) (fun it s₂ => ∀ p, Seg M A R Y n s₀ (.forLoop target it body orelse env) (M.den (.forLoop target it body orelse env))
      (.ret (fun r => ((match r with | .ok f => (.pure f : Sem Flow) | .error e => .raise e).onRaise fun (x : Value) => do
        if (← field x 1) == Value.none then unsupported "frame.own-activation:exception-without-traceback"
        setFlight x env.frame).wrap K H gd lv) none (gd false) (lv []) c p [] :: fs) s₂) (fun x s' => Seg M A R Y n s₀ c (H x) fs s') s₁) (fun x s' => Seg M A R Y n s₀ c (H x) fs s') s) :
    Seg M A R Y n s₀ c ((exec (.For target iter body orelse pos) env).wrap K H gd lv) fs s := by
  rw [exec_For]
  refine seg_wbind (wpAny_standAt (seg_wbind (wpAny_mono h (fun x s₁ h₁ => seg_wbind (wpAny_of_eq (hs x) (seg_wbind (wpAny_standAt (seg_wbind (wpAny_holding (wpAny_mono h₁ (fun it s₂ h₂ => ?_) fun _ _ e => e))))))) fun _ _ e => e)))
  exact seg_call h₂
end
section
variable {prog : Program} {w : World} {A : Around} {R : GenEnd} {Y : Protocol} {n : Nat} {s₀ : Shared} {fs : List Frame} {s : Shared} {env : Env}
theorem seg_eq {M : Model} {c : Code} {t t' : Sem Fin} (e : t = t') (h : Seg M A R Y n s₀ c t' fs s) : Seg M A R Y n s₀ c t fs s := e ▸ h
noncomputable def Hn (env : Env) (e : Value) : Sem Fin := (do noteFrame e env; theTreesLotGoes e : Sem Unit).bind (fun _ => .raise e)
theorem seg_forLoop {target : Expr} {it : Value} {body orelse : List Stmt} (ht : ∀ v, letOwnedTupleGo target it v = pure ())
    (h : wpAny (model prog w) (A.over (.forLoop target it body orelse env) fs) (pyNext it) (fun r s₁ => match r with
      | none => Seg (model prog w) A R Y n s₀ (.forLoop target it body orelse env) (.pure (.again (.block orelse env))) fs s₁
      | some v => wpAny (model prog w) (A.over (.forLoop target it body orelse env) fs) (assign target env v) (fun _ s₂ => Seg (model prog w) A R Y n s₀ (.forLoop target it body orelse env) ((execs body env).wrap (fun f => match f with
            | .next | .cont => .pure (.again (.forLoop target it body orelse env))
            | .brk => .pure (.done .next)
            | .ret v => .pure (.done (.ret v))) (Hn env) id id) fs s₂) (fun x s' => Seg (model prog w) A R Y n s₀ (.forLoop target it body orelse env) (Hn env x) fs s') s₁)
      (fun x s' => Seg (model prog w) A R Y n s₀ (.forLoop target it body orelse env) (Hn env x) fs s') s) :
    Seg (model prog w) A R Y n s₀ (.forLoop target it body orelse env) ((model prog w).den (.forLoop target it body orelse env)) fs s := by
  show Seg _ A R Y n s₀ _ ((forTurn target it body orelse env).onRaise (fun x => do noteFrame x env; theTreesLotGoes x)) fs s
  unfold forTurn
  rw [Sem.onRaise_eq_wrap]
  refine seg_wbind (wpAny_standAt (seg_wbind (wpAny_onRaise (wpAny_mono h (fun r s₁ h₁ => ?_) fun _ _ e => wpAny_standAt e))))
  cases r with
  | none => exact h₁
  | some v =>
    refine seg_wbind (wpAny_of_eq (ht v) (seg_wbind (wpAny_mono h₁ (fun _ s₂ h₂ => ?_) fun _ _ e => e)))
    rw [Sem.bind_eq_wrap', Sem.wrap_wrap]
    refine seg_eq (Sem.wrap_congr _ _ _ (fun f => ?_) (fun x => ?_)) h₂
    · cases f <;> rfl
    · rfl
end
end Mine
end
section
open PySem PySem.W PyProof.Rows
open PySem.Builtin PySem.Builtin.Str
set_option maxRecDepth 100000
set_option maxHeartbeats 8000000
namespace Mine
section
variable {prog : Program} {w : World} {A : Around} {E : Value → Shared → Prop} {s : Shared} {Q : Value → Shared → Prop}
/-- a generator's def, called: its frame and the generator, nothing run -/
theorem call_gen {h₀ : Heap} {L : Addr} {m : Str → Option Value} {K : Frag} {name qual : Str} {params : Arguments} {body : List Stmt} {scope : Scope} {dV kV doc pm cdv ct oc : Value} {an od : Option Addr} {osl : Array (Option Value)} {f : Addr} {args : List Value} {binds : List (Str × Value)}
    (F : Fr h₀ L s.heap m) (X : K.In h₀) (hlim : h₀.NoLimit)
    (ho : K.lookup f = some ⟨oc, od, .func (fnOf name qual params body scope dV kV doc pm an cdv ct), osl⟩) (hcd : codeIn K cdv qual = true) (hroom : A.depth < recursionLimit)
    (hbind : BindsTo s (fnOf name qual params body scope dV kV doc pm an cdv ct) ⟨args, []⟩ binds) (hloc : ∀ y ∈ binds, scope.names.lookup y.1 = some .local)
    (h : ∀ h' tk, h'.objs.size = s.heap.objs.size + 2 → h'.Ns s.heap.objs.size (fun y => binds.reverse.lookup y) → h'.IsGen (s.heap.objs.size + 1) s.gens.size → (∀ b o, s.heap.get? b = some o → h'.get? b = some o) →
      Q (.ref (s.heap.objs.size + 1)) { s with heap := h', toks := tk, gens := s.gens.push (.fresh (.func body (envOf qual scope s.heap.objs.size f cdv))) })
    (hco : scope.isCoroutine = false := by rfl) (hgen : scope.isGenerator = true := by rfl) (hk : scope.kind = .function := by rfl)
    (hcell : ∀ x ∈ scope.names, x.2 ≠ .cell := by decide) : wpAny (model prog w) A (call (.ref f) args) Q E s := by
  refine wpAny_call ?_
  have X' : K.In s.heap := fun b o e => F.keep b o (X b o e)
  refine codeAny_call_generator (fd := fnOf name qual params body scope dV kV doc pm an cdv ct) (body := body) hroom (X' _ _ ho) rfl hco hgen rfl (codeRec_of X' hcd) (hbind _ _ _ _ ?_)
  refine wpAny_newFunctionEnv hcell hloc (fun h₁ hns hsb => ⟨(hlim.keeps F.keep).fresh _ hsb, ?_⟩) hk
  have hsz : h₁.objs.size = s.heap.objs.size + 1 := by rw [hsb.1, Heap.size_push]
  have key := h (h₁.push { cls := .type "generator", data := .fields #[.int s.gens.size 0, .str name (s.toks + binds.length), .str qual (s.toks + binds.length + 1)] }) (s.toks + binds.length + 1 + 1) (by rw [Heap.size_push, hsz]) (hns.push _)
    ⟨_, _, _, by rw [← hsz]; exact Heap.get?_push_size _ rfl, rfl, rfl, rfl⟩ (fun b o e => Heap.get?_push_of_some _ (hsb.extBut b o (Nat.ne_of_lt (Heap.lt_size e)) (Heap.get?_push_of_some _ e)))
  rw [← hsz] at key
  exact key
end
end Mine
end
section
open PySem PySem.W PyProof.Rows
open PySem.Builtin PySem.Builtin.Str
set_option maxRecDepth 100000
set_option maxHeartbeats 8000000
namespace Mine
noncomputable def BareKeep (a b : Array GenState) : Prop := (∀ y ∈ a, y.bare = true) → ∀ y ∈ b, y.bare = true
theorem BareKeep.refl {a : Array GenState} : BareKeep a a := fun h => h
theorem BareKeep.trans {a b c : Array GenState} (x : BareKeep a b) (y : BareKeep b c) : BareKeep a c := fun h => y (x h)
theorem BareKeep.push {a : Array GenState} {c : Code} : BareKeep a (a.push (.fresh c)) := fun h y hy => by
  rcases Array.mem_push.mp hy with q | q
  · exact h y q
  · rw [q]; rfl
theorem BareKeep.setGen {s : Shared} {g : Nat} {x : GenState} (hx : x.bare = true) : BareKeep s.gens (s.setGen g x).gens := fun h y hy => by
  have hy' : y ∈ s.gens.setIfInBounds g x := hy
  rcases Array.mem_or_eq_of_mem_setIfInBounds hy' with q | q
  · exact h y q
  · rw [q]; exact hx
section
variable {prog : Program} {w : World} {A : Around} {E : Value → Shared → Prop} {s : Shared}
theorem next_genQ {a : Addr} {g n : Nat} {gs : GenState} {P : Nat → Shared → Shared → Prop} {Y : Protocol} {Q : Option Value → Shared → Prop} (hh : A.handled = none)
    (hl : s.heap.NoLimit) (hroom : A.depth < recursionLimit)
    (hg : s.heap.IsGen a g) (hgs : s.gens[g]? = some gs)
    (hgo : gs.Goes (model prog w) A.in1 (fun n s₀ r s₁ => r = .ok (.ret .none) ∧ P n s₀ s₁) Y n (.send .none) (s.setGen g .running))
    (hY : ∀ v s₁ gs', gs'.bare = true → Y (n - 1) (s.setGen g .running) v s₁ (fun r' s'' => match n with
        | 0 => False
        | m + 1 => gs'.Goes (model prog w) A.in1 (fun n s₀ r s₁ => r = .ok (.ret .none) ∧ P n s₀ s₁) Y m r' s'') → Q (some v) (s₁.setGen g gs'))
    (hP : ∀ s₁, P n (s.setGen g .running) s₁ → ∀ h', (∀ b o, s₁.heap.get? b = some o → h'.get? b = some o) → Q none { s₁.setGen g .finished with heap := h' }) :
    wpAny (model prog w) A (pyNext (.ref a)) Q E s := by
  unfold pyNext
  refine wpAny_bind (wpAny_attempt (wpAny_callSpecial?_slot (name := Str.ofString "__next__") hg.typeIs slot_gen_next (wpAny_call_entry slot_gen_next hg.typeIs entry_gen_next ?_ (args_gen_next _))))
  show wpAny _ A.in1 (Builtin.Generator.genWake (.ref a) (.send .none)) _ _ s
  unfold Builtin.Generator.genWake
  refine wpAny_bind (wpAny_holding (wpAny_genNumber hg (wpAny_bind (wpAny_genState hgs ?_))))
  cases gs with
  | running => exact hgo.elim
  | finished => exact hgo.elim
  | _ =>
    refine wpAny_bind (wpAny_roomToWake hl hroom ?_)
    show wpAny _ A.in1 (.resume g (.send .none) [] _) _ _ s
    refine wpAny_resumeQ hgs hgo (fun x s₁ hx => ?_) (fun v s₁ gs' hb hv => wpAny_pure ⟨v, rfl, wpAny_pure (hY v s₁ gs' hb hv)⟩)
    obtain ⟨rfl, hp⟩ := hx
    show wpAny _ A.in1 (newExc (.type "StopIteration") [] >>= _) _ _ _
    refine wpAny_bind ?_
    simp only [newExc, newTuple]
    refine wpAny_bind (wpAny_newObj_type ?_ (by size_fits))
    refine wpAny_bind (m := firstArgMember _ _) (wpAny_of_eq (a := Value.none) (by first | rfl | (simp only [firstArgMember]; rfl)) ?_)
    refine wpAny_newObj_type ?_ (by size_fits)
    simp only [raiseNew]
    refine wpAny_bind (wpAny_bind (wpAny_handled ?_))
    first | rw [show A.in1.handled = none from hh] | rw [hh]
    refine wpAny_throw ?_
    refine wpAny_bind (wpAny_isInstance (T := "StopIteration") (b := true) ⟨_, Heap.get?_push_size _ rfl, rfl⟩ isSubtype_stop ?_)
    exact wpAny_pure (hP s₁ hp _ fun b o hb => Heap.get?_push_of_some _ (Heap.get?_push_of_some _ hb))
end
/-- what a resumption may rely on -/
noncomputable def Al (h₀ : Heap) (fp : List Addr) (h h' : Heap) : Prop := (∀ b o, h₀.get? b = some o → h'.get? b = some o) ∧ ∀ b ∈ fp, ∀ o, h.get? b = some o → h'.get? b = some o
/-- the protocol: whole numbers of one size, the frame `C` and the iterator `I` written alone -/
noncomputable def Yp (h₀ : Heap) (C I l : Addr) (step : Int) (fin : Bool) : Protocol := fun n s₀ v s₁ kap =>
  (∃ t, v = .int step t) ∧ GenSince C [I] s₀ s₁ ∧ ((fin = true ∨ 0 < n) → ∀ s'', Al h₀ [C, I, l] s₁.heap s''.heap → kap (.send .none) s'')
noncomputable def Rp (C I : Addr) (fin : Bool) : Nat → Shared → Shared → Prop := fun n s₀ s₁ => n = 0 ∧ fin = true ∧ GenSince C [I] s₀ s₁
abbrev Rg (C I : Addr) (fin : Bool) : GenEnd := fun n s₀ r s₁ => r = .ok (.ret .none) ∧ Rp C I fin n s₀ s₁
section
variable {prog : Program} {w : World} {A : Around} {s : Shared} {env : Env} {h₀ : Heap} {E : Value → Shared → Prop}
noncomputable def LoopQ (prog : Program) (w : World) (A : Around) (env : Env) (target : Expr) (body : List Stmt) (Q : Flow → Shared → Prop) (E : Value → Shared → Prop) (it : Value) (s₂ : Shared) : Prop :=
  codeAny (model prog w) A (.forLoop target it body [] env) (fun r s' => match r with | .ok f => Q f s' | .error e => cameBackBy (model prog w) A env E e s') s₂
theorem For_Q {Q : Flow → Shared → Prop} {target : Expr} {pos : Pos} {iter : Expr} {body : List Stmt}
    (h : wpAny (model prog w) A (eval iter env) (fun xv s₁ => wpAny (model prog w) A (pyIter xv) (fun it s₂ => LoopQ prog w A env target body Q E it s₂) E s₁) E s)
    (hs : ∀ x, foldedSetIterable iter env x = pure x := by intro _; rfl) :
    wpAny (model prog w) A (exec (.For target iter body [] pos) env) Q E s :=
  wpAny_For (wpAny_mono h (fun _ _ h₁ => wpAny_mono h₁ (fun _ _ h₂ => h₂) fun _ _ e => e) fun _ _ e => e) hs
inductive GenI (prog : Program) (w : World) (A : Around) (C I l a : Addr) (g N : Nat) (step : Int) (fin : Bool) (h₀ : Heap) (L : Addr) (J : Nat → (Str → Option Value) → List (Addr × Obj) → Prop) (s : Shared) (k : Nat) (s' : Shared) : Prop
  | mk (h' : Heap) (tk : Nat) (gg : Array GenState) (m' : Str → Option Value) (news' : List (Addr × Obj)) (i : Nat) (e : s' = { s with heap := h', toks := tk, gens := gg }) (hgen : h'.IsGen a g) (gs : GenState) (hgs : gg[g]? = some gs) (hgo : (fin = true ∨ i < N) → gs.Goes (model prog w) A.in1 (Rg C I fin) (Yp h₀ C I l step fin) (N - i) (.send .none) (({ s with heap := h', toks := tk, gens := gg } : Shared).setGen g .running)) (F : Fr h₀ L h' m') (Nw : News h₀ L h' news') (hnw : ∀ p ∈ news', p.1 ∉ [C, I]) (hJ : J i m' news') (hbk : BareKeep s.gens gg) (hi : i ≤ N) (hk : k = N + 1 - i) : GenI prog w A C I l a g N step fin h₀ L J s k s'
theorem gen_loop {Q : Flow → Shared → Prop} {x : Str} {px : Pos} {body : List Stmt} {a C I l : Addr} {g N : Nat} {c : Code} {step : Int} {fin : Bool} {m : Str → Option Value} {news : List (Addr × Obj)}
    (hx : env.kindOf x = some .local) (hp : (env.scope.kind == .class || (env.scope.kind == .module && env.locals != env.globals)) = false)
    (hh : A.handled = none) (hlim : h₀.NoLimit) (hroom : A.depth < recursionLimit)
    (F : Fr h₀ env.locals s.heap m) (Nw : News h₀ env.locals s.heap news)
    (hgen : s.heap.IsGen a g) (hgs : s.gens[g]? = some (.fresh c))
    (hI : I = s.heap.objs.size) (hC0 : h₀.get? C = none) (hCl : env.locals ≠ C) (haC : a ≠ C) (hla : env.locals ≠ a) (hll : env.locals ≠ l) (hnC : ∀ p ∈ news, p.1 ≠ C)
    (hseg : Seg (model prog w) A.in1 (Rg C I fin) (Yp h₀ C I l step fin) N (s.setGen g .running) c ((model prog w).den c) [] (s.setGen g .running))
    (J : Nat → (Str → Option Value) → List (Addr × Obj) → Prop) (h0 : J 0 m news)
    (hstep : ∀ i t m₁ news₁ h tk gg own, i < N → J i m₁ news₁ → (∀ p ∈ news₁, p.1 ∉ [C, I]) → (∀ p ∈ own, p.1 ∈ [a, C, I, l]) → BareKeep s.gens gg →
      Fr h₀ env.locals h (fun y => if y = x then some (.int step t) else m₁ y) → News h₀ env.locals h (news₁ ++ own) →
      wpAny (model prog w) A (execs body env) (TurnPost h₀ env.locals [C, I] own (fun m' n' g' => g' = gg ∧ J (i + 1) m' n') s Q) E { s with heap := h, toks := tk, gens := gg })
    (hnofin : ∀ m' n', fin = false → ¬ J N m' n')
    (done : ∀ h' tk gg m' news', BareKeep s.gens gg → Fr h₀ env.locals h' m' → News h₀ env.locals h' news' → J N m' news' → Q .next { s with heap := h', toks := tk, gens := gg })
    (hE : PassesOwn (model prog w) A env E := by passes_own) :
    wpAny (model prog w) A (pyIter (.ref a)) (fun it s₂ => LoopQ prog w A env (.Name x px) body Q E it s₂) E s := by
  refine wpAny_pyIter_gen hgen ?_
  unfold LoopQ
  have haI : a ≠ I := hI ▸ Nat.ne_of_lt (let ⟨_, _, _, ho, _⟩ := hgen; Heap.lt_size ho)
  have hLI : env.locals ≠ I := hI ▸ Nat.ne_of_lt F.ns.lt
  have hI0 : h₀.get? I = none := hI ▸ next_is_new F
  have hLf : env.locals ∉ [a, C, I, l] := fun q => by
    simp only [List.mem_cons, List.not_mem_nil, or_false] at q
    rcases q with q | q | q | q
    · exact hla q
    · exact hCl q
    · exact hLI q
    · exact hll q
  have hLw : env.locals ∉ [C, I] := fun q => by
    simp only [List.mem_cons, List.not_mem_nil, or_false] at q
    rcases q with q | q
    · exact hCl q
    · exact hLI q
  have old : ∀ b o, h₀.get? b = some o → b ∉ [C, I] := fun b o e q => by
    simp only [List.mem_cons, List.not_mem_nil, or_false] at q
    rcases q with q | q <;> subst q
    · rw [hC0] at e; cases e
    · rw [hI0] at e; cases e
  have hnw : ∀ p ∈ news, p.1 ∉ [C, I] := fun p hp q => by
    simp only [List.mem_cons, List.not_mem_nil, or_false] at q
    rcases q with q | q
    · exact hnC p hp q
    · exact absurd (Heap.lt_size (Nw p hp).1) (by rw [q, hI]; exact Nat.lt_irrefl _)
  refine codeAny_forLoop
    (GenI prog w A C I l a g N step fin h₀ env.locals J s) ?_ (N + 1)
    ⟨s.heap, s.toks, s.gens, m, news, 0, rfl, hgen, _, hgs, fun _ => ⟨rfl, hseg⟩, F, Nw, hnw, h0, BareKeep.refl, Nat.zero_le _, rfl⟩
  rintro k s' ⟨h', tk, gg, m', news', i, rfl, hgen', gs, hgs', hgo, F', N', hnw', hJ, hbk, hi, rfl⟩
  have next : ∀ h₁ : Heap, (∀ b o, b ≠ C → b ∉ [I] → h'.get? b = some o → h₁.get? b = some o) → Fr h₀ env.locals h₁ m' ∧ News h₀ env.locals h₁ news' := fun h₁ hk₁ =>
    have hk₁' : ∀ b o, b ∉ [C, I] → h'.get? b = some o → h₁.get? b = some o := fun b o hb e => hk₁ b o (fun q => hb (q ▸ .head _)) (fun q => hb (.tail _ q)) e
    ⟨⟨F'.ns.at' fun o e => hk₁' _ o hLw e, fun b o e => hk₁' b o (old b o e) (F'.keep b o e), F'.above⟩, fun p hp => ⟨hk₁' _ _ (hnw' p hp) (N' p hp).1, (N' p hp).2⟩⟩
  by_cases hlt : i < N
  · obtain ⟨n, hn⟩ : ∃ n, N - i = n + 1 := ⟨N - i - 1, by lia  ⟩
    have hgo := hgo (.inr hlt)
    rw [hn] at hgo
    refine next_genQ hh (hlim.keeps F'.keep) hroom hgen' hgs' hgo (fun v s₁ gs' hb hv => ?_) (fun s₁ hp => absurd hp.1 (Nat.succ_ne_zero _))
    obtain ⟨⟨t, rfl⟩, ⟨h₁, tk₁, rfl, hk₁⟩, hkap⟩ := hv
    obtain ⟨F₁, N₁⟩ := next h₁ hk₁
    refine wpAny_assign_Name (wpAny_storeName_local hx F₁.ns (fun h₂ hn₂ hs₂ => ?_) hp)
    have F₂ := F₁.set hn₂ hs₂
    have hbk₂ : BareKeep s.gens (((({ s with heap := h', toks := tk, gens := gg } : Shared).setGen g .running).setGen g gs').gens) := hbk.trans (BareKeep.trans (BareKeep.setGen (s := { s with heap := h', toks := tk, gens := gg }) rfl) (BareKeep.setGen hb))
    have Nown : News h₀ env.locals h₂ (ownOf h₀ [a, C, I, l] h₂) := news_ownOf hLf
    refine wpAny_passesOwn hE (wpAny_mono (hstep i t m' news' h₂ _ _ (ownOf h₀ [a, C, I, l] h₂) hlt hJ hnw' ownOf_sub hbk₂ F₂ (news_swap (Nown.append (N₁.set hs₂)))) (fun f s₃ h₃ => ?_) fun _ _ e => e)
    have fini : TurnEnd h₀ env.locals [C, I] (ownOf h₀ [a, C, I, l] h₂) (fun m'' n'' g'' => g'' = ((({ s with heap := h', toks := tk, gens := gg } : Shared).setGen g .running).setGen g gs').gens ∧ J (i + 1) m'' n'') s s₃ →
        ∃ k', k' < N + 1 - i ∧ GenI prog w A C I l a g N step fin h₀ env.locals J s k' s₃ := by
      rintro ⟨h₃', tk₃, g₃, m₂, news₂, rfl, F₃, N₃, ha₃, rfl, hJ₃⟩
      have stay : ∀ b ∈ [a, C, I, l], ∀ o, h₁.get? b = some o → h₃'.get? b = some o := fun b hb o e => by
        have e₂ : h₂.get? b = some o := (hs₂.2 b fun q => hLf (q ▸ hb)).trans e
        cases hn : h₀.get? b with
        | some o₀ =>
          have : o₀ = o := by have := F₂.keep b o₀ hn; rw [e₂] at this; exact (Option.some.inj this).symm
          exact this ▸ F₃.keep b o₀ hn
        | none => exact (N₃ _ (List.mem_append_right _ (mem_ownOf hb hn e₂))).1
      have hgen₁ : h₁.IsGen a g := let ⟨o, nm, qn, ho, r⟩ := hgen'; ⟨o, nm, qn, hk₁ a o haC (fun q => haI (List.mem_singleton.mp q)) ho, r⟩
      refine ⟨N + 1 - (i + 1), by lia  , h₃', tk₃, _, m₂, news₂, i + 1, rfl, (let ⟨o, nm, qn, ho, r⟩ := hgen₁; ⟨o, nm, qn, stay a (.head _) o ho, r⟩), gs', setGen_self (gs := .running) (setGen_self (s := { s with heap := h', toks := tk, gens := gg }) hgs'), fun hor => ?_, F₃, fun p hp => N₃ p (List.mem_append_left _ hp), ha₃, hJ₃, hbk₂, hlt, rfl⟩
      have hN1 : N - (i + 1) = n := by lia  
      rw [hN1]
      exact hkap (hor.imp id fun q => by lia  ) _ ⟨F₃.keep, fun b hb o e => stay b (.tail _ hb) o e⟩
    cases f with
    | ret v => exact h₃
    | brk => exact h₃
    | cont => exact fini h₃
    | next => exact fini h₃
  · have hin : i = N := by lia  
    subst hin
    cases hf : fin with
    | false => exact absurd hJ (hnofin _ _ hf)
    | true =>
      have hgo := hgo (.inl hf)
      rw [Nat.sub_self] at hgo
      refine next_genQ hh (hlim.keeps F'.keep) hroom hgen' hgs' hgo (fun v s₁ gs' hb hv => ?_) (fun s₁ hp h'' hk'' => ?_)
      · obtain ⟨_, ⟨h₁, tk₁, rfl, hk₁⟩, hkap⟩ := hv
        exact (hkap (.inl hf) _ ⟨(next h₁ hk₁).1.keep, fun _ _ _ e => e⟩).elim
      · obtain ⟨_, _, h₁, tk₁, rfl, hk₁⟩ := hp
        refine wpAny_execs_nil ?_
        obtain ⟨F₁, N₁⟩ := next h₁ hk₁
        exact done h'' _ _ m' news' (hbk.trans (BareKeep.trans (BareKeep.setGen (s := { s with heap := h', toks := tk, gens := gg }) rfl) (BareKeep.setGen rfl))) ⟨F₁.ns.at' fun o e => hk'' _ o e, fun b o e => hk'' b o (F₁.keep b o e), F₁.above⟩ (fun p hp => ⟨hk'' _ _ (N₁ p hp).1, (N₁ p hp).2⟩) hJ
end
end Mine
end
section
open PySem PySem.W PyProof.Rows
open PySem.Builtin PySem.Builtin.Str
set_option maxRecDepth 100000
set_option maxHeartbeats 8000000
namespace Mine
/-- a generator's frame `C`, its list `l` and iterator `I`, since the state `s₀` -/
structure GQ (g : Heap) (C I l : Addr) (vs : List Value) (m : Str → Option Value) (s₀ : Shared) (h : Heap) : Prop where
  F : Fr g C h m
  S : ∀ b o, b ≠ C → b ∉ [I] → s₀.heap.get? b = some o → h.get? b = some o
  L : h.IsList l vs.toArray
section
variable {prog : Program} {w : World} {A : Around} {R : GenEnd} {Y : Protocol} {n : Nat} {s₀ : Shared} {c : Code} {fs : List Frame} {env : Env} {gd : Bool → Bool} {lv : List Value → List Value}
  {g h : Heap} {C I l : Addr} {vs : List Value} {m : Str → Option Value} {tk : Nat} {K : Flow → Sem Fin} {H : Value → Sem Fin}
theorem GQ.store {h' : Heap} {m' : Str → Option Value} (G : GQ g C I l vs m s₀ h) (hlC : l ≠ C) (hn : h'.Ns C m') (hs : Heap.SameBut C h h') : GQ g C I l vs m' s₀ h' :=
  ⟨G.F.set hn hs, fun b o h1 h2 e => hs.extBut b o h1 (G.S b o h1 h2 e), G.L.extBut hs.extBut hlC⟩
theorem GQ.init (F : Fr g C s₀.heap m) (L : s₀.heap.IsList l vs.toArray) : GQ g C I l vs m s₀ s₀.heap := ⟨F, fun _ _ _ _ e => e, L⟩
theorem seg_gen0 {M : Model} {t : Sem Fin} {st : Shared} (P : Shared → Heap → Prop) (h0 : P st st.heap) (H' : ∀ s₀ h tk, P s₀ h → Seg M A R Y n s₀ c t fs { s₀ with heap := h, toks := tk }) : Seg M A R Y n st c t fs st := H' st st.heap st.toks h0
theorem segAssign {x : Str} {px pos : Pos} {e : Expr} {v : Value} (G : GQ g env.locals I l vs m s₀ h) (hx : env.kindOf x = some .local) (hp : (env.scope.kind == .class || (env.scope.kind == .module && env.locals != env.globals)) = false)
    (hlC : l ≠ env.locals) (hIC : I ≠ env.locals) (hsw : swapsWith e (some (.Name x px)) pos.line env = pure false)
    (he : ∀ E', wpAny (model prog w) (A.over c fs) (eval e env) (fun r s₁ => r = v ∧ ∃ tk', s₁ = { s₀ with heap := h, toks := tk' }) E' { s₀ with heap := h, toks := tk })
    (hK : ∀ h' tk', GQ g env.locals I l vs (fun y => if y = x then some v else m y) s₀ h' → h'.objs.size = h.objs.size → (∀ i, h.IsListIter I l i → h'.IsListIter I l i) → Seg (model prog w) A R Y n s₀ c (K .next) fs { s₀ with heap := h', toks := tk' }) :
    Seg (model prog w) A R Y n s₀ c ((exec (.Assign [.Name x px] e pos) env).wrap K H gd lv) fs { s₀ with heap := h, toks := tk } := by
  refine seg_wrap (wpAny_Assign_Name (wpAny_mono (he _) (fun r s₁ h₁ => ?_) fun _ _ e => e) hsw)
  obtain ⟨rfl, tk', rfl⟩ := h₁
  exact wpAny_storeName_local hx G.F.ns (fun h' hn hs => hK h' _ (G.store hlC hn hs) hs.1 fun i hi => hi.extBut hs.extBut hIC) hp
theorem segFor {x : Str} {px pos : Pos} {iter : Expr} {body : List Stmt} (G : GQ g C I l vs m s₀ h) (hI : I = h.objs.size) (hs : ∀ x, foldedSetIterable iter env x = pure x)
    (he : ∀ E', wpAny (model prog w) (A.over c fs) (eval iter env) (fun r s₁ => r = .ref l ∧ ∃ tk', s₁ = { s₀ with heap := h, toks := tk' }) E' { s₀ with heap := h, toks := tk })
    (hK : ∀ h' tk' p, GQ g C I l vs m s₀ h' → h'.IsListIter I l 0 → Seg (model prog w) A R Y n s₀ (.forLoop (.Name x px) (.ref I) body [] env) ((model prog w).den (.forLoop (.Name x px) (.ref I) body [] env))
      (.ret (fun r => ((match r with | .ok f => (.pure f : Sem Flow) | .error e => .raise e).onRaise fun (x : Value) => do
        if (← field x 1) == Value.none then unsupported "frame.own-activation:exception-without-traceback"
        setFlight x env.frame).wrap K H gd lv) none (gd false) (lv []) c p [] :: fs) { s₀ with heap := h', toks := tk' }) :
    Seg (model prog w) A R Y n s₀ c ((exec (.For (.Name x px) iter body [] pos) env).wrap K H gd lv) fs { s₀ with heap := h, toks := tk } := by
  refine seg_For hs (wpAny_mono (he _) (fun r s₁ h₁ => ?_) fun _ _ e => e)
  obtain ⟨rfl, tk', rfl⟩ := h₁
  refine wpAny_pyIter_list G.L ?_
  subst hI
  intro p
  exact hK _ tk' p ⟨G.F.push _, fun b o h1 h2 e => Heap.get?_push_of_some _ (G.S b o h1 h2 e), G.L.push _⟩ ⟨_, Heap.get?_push_size _ rfl, rfl, rfl⟩
theorem segTurn {x : Str} {px : Pos} {body : List Stmt} {i : Nat} {v : Value} (G : GQ g env.locals I l vs m s₀ h) (hit : h.IsListIter I l i) (hv : vs[i]? = some v)
    (hx : env.kindOf x = some .local) (hp : (env.scope.kind == .class || (env.scope.kind == .module && env.locals != env.globals)) = false)
    (hlC : l ≠ env.locals) (hIC : I ≠ env.locals) (hlI : l ≠ I) (hI0 : g.get? I = none) (hh : (A.over (.forLoop (.Name x px) (.ref I) body [] env) fs).handled = none)
    (hK : ∀ h' tk', GQ g env.locals I l vs (fun y => if y = x then some v else m y) s₀ h' → h'.IsListIter I l (i + 1) → Seg (model prog w) A R Y n s₀ (.forLoop (.Name x px) (.ref I) body [] env) ((execs body env).wrap (fun f => match f with
            | .next | .cont => .pure (.again (.forLoop (.Name x px) (.ref I) body [] env))
            | .brk => .pure (.done .next)
            | .ret v => .pure (.done (.ret v))) (Hn env) id id) fs { s₀ with heap := h', toks := tk' }) :
    Seg (model prog w) A R Y n s₀ (.forLoop (.Name x px) (.ref I) body [] env) ((model prog w).den (.forLoop (.Name x px) (.ref I) body [] env)) fs { s₀ with heap := h, toks := tk } := by
  have W := Walks.list (prog := prog) (w := w) hh I l hlI vs.toArray
  have hlt : i < vs.length := (List.getElem?_eq_some_iff.mp hv).1
  refine seg_forLoop (fun _ => rfl) (W.item i _ _ _ (by simpa using hlt) ⟨hit, G.L⟩ fun v' h₁ tk₁ hP hst hk => ?_)
  have : v' = v := by have hP' : vs[i]? = some v' := by simpa using hP
                      rw [hv] at hP'; exact (Option.some.inj hP').symm
  subst this
  have hIs : ∀ b, b ≠ I → b ∉ [I] := fun b hb q => hb (List.mem_singleton.mp q)
  have G₁ : GQ g env.locals I l vs m s₀ h₁ := ⟨⟨G.F.ns.at' fun o e => hk _ o (hIs _ (Ne.symm hIC)) e, fun b o e => hk b o (hIs _ fun q => by rw [q, hI0] at e; cases e) (G.F.keep b o e), G.F.above⟩, fun b o h1 h2 e => hk b o h2 (G.S b o h1 h2 e), hst.2⟩
  refine wpAny_assign_Name (wpAny_storeName_local hx G₁.F.ns (fun h' hn hs => ?_) hp)
  exact hK h' _ (G₁.store hlC hn hs) (hst.1.extBut hs.extBut hIC)
theorem segIf {test : Expr} {body orelse : List Stmt} {pos : Pos} (bb : Bool) {s : Shared}
    (ht : ∀ E', wpAny (model prog w) (A.over c fs) (isTrue test env (eval test env)) (fun b s₁ => b = bb ∧ ∃ tk', s₁ = { s with toks := tk' }) E' s)
    (hK : ∀ tk', Seg (model prog w) A R Y n s₀ c ((execs (if bb = true then body else orelse) env).wrap K H gd lv) fs { s with toks := tk' }) :
    Seg (model prog w) A R Y n s₀ c ((exec (.If test body orelse pos) env).wrap K H gd lv) fs s := by
  refine seg_If (wpAny_mono (ht _) (fun b s₁ h₁ => ?_) fun _ _ e => e)
  obtain ⟨rfl, tk', rfl⟩ := h₁
  have := hK tk'
  cases b with
  | true => rw [if_pos rfl]; exact this
  | false => rw [if_neg (by decide)]; exact this
theorem segWh {test : Expr} {body orelse : List Stmt} {s : Shared}
    (ht : ∀ E', wpAny (model prog w) (A.over (.whileLoop test body orelse env) fs) (isTrue test env (eval test env)) (fun b s₁ => b = true ∧ ∃ tk', s₁ = { s with toks := tk' }) E' s)
    (hK : ∀ tk', Seg (model prog w) A R Y n s₀ (.whileLoop test body orelse env) ((execs body env).wrap (fun f => match f with
            | .next | .cont => .pure (.again (.whileLoop test body orelse env))
            | .brk => .pure (.done .next)
            | .ret v => .pure (.done (.ret v))) (fun e => (do noteFrame e env; theTreesLotGoes e : Sem Unit).wrap (fun _ => .raise e) .raise id id) id id) fs { s with toks := tk' }) :
    Seg (model prog w) A R Y n s₀ (.whileLoop test body orelse env) ((model prog w).den (.whileLoop test body orelse env)) fs s := by
  refine seg_whileLoop (wpAny_mono (ht _) (fun b s₁ h₁ => ?_) fun _ _ e => e)
  obtain ⟨rfl, tk', rfl⟩ := h₁
  rw [if_pos rfl]
  exact hK tk'
theorem segRet {pos : Pos} {s : Shared} (h : Seg (model prog w) A R Y n s₀ c (K (.ret .none)) fs s) : Seg (model prog w) A R Y n s₀ c ((exec (.Return none pos) env).wrap K H gd lv) fs s := by
  rw [exec_Return_none]
  exact seg_wbind (wpAny_standAt (seg_wpure h))
theorem segYield {e : Expr} {ypos pos : Pos} {i : Nat} {step : Int} {t : Tok} {fin : Bool} (G : GQ g C I l vs m s₀ h) (hit : h.IsListIter I l i) (hfs : splitAtGen fs = none) (hgd : gd false = false) (hfg : fs.any Frame.guarded = false)
    (he : ∀ E', wpAny (model prog w) (A.over c fs) (eval e env) (fun r s₁ => r = .int step t ∧ ∃ tk', s₁ = { s₀ with heap := h, toks := tk' }) E' { s₀ with heap := h, toks := tk })
    (hK : (fin = true ∨ 0 < n) → ∀ s'', GQ g C I l vs m s'' s''.heap → s''.heap.IsListIter I l i → Seg (model prog w) A R (Yp g C I l step fin) n s'' c (K .next) fs s'')
    (hco : env.scope.isCoroutine = false := by rfl) (hi : interactive env = false := by rfl) :
    Seg (model prog w) A R (Yp g C I l step fin) (n + 1) s₀ c ((exec (.Expr (.Yield (some e) ypos) pos) env).wrap K H gd lv) fs { s₀ with heap := h, toks := tk } := by
  refine seg_Expr_Yield hfs hgd hfg (wpAny_mono (he _) (fun r s₁ h₁ => ?_) fun _ _ e => e) hco hi
  obtain ⟨rfl, tk', rfl⟩ := h₁
  intro kap hkap
  refine ⟨⟨t, rfl⟩, ⟨h, tk', rfl, G.S⟩, fun hor s'' hal => hkap .none s'' (hK hor s'' ⟨⟨G.F.ns.at' fun o e => hal.2 C (by simp) o e, hal.1, G.F.above⟩, fun _ _ _ _ e => e, G.L.at fun o e => hal.2 l (by simp) o e⟩ (hit.at fun o e => hal.2 I (by simp) o e))⟩
end
end Mine
end
section
open PySem PySem.W PyProof.Rows
open PySem.Builtin PySem.Builtin.Str
set_option maxRecDepth 100000
set_option maxHeartbeats 8000000
namespace Mine
/-! a list comprehension with two `for`s, the inner one over a text -/
abbrev two (elt it0 it1 : Expr) (x y : Str) (px py : Pos) (scope : Scope) (pos : Pos) : Expr := .ListComp elt [⟨.Name x px, it0, [], 0⟩, ⟨.Name y py, it1, [], 0⟩] scope pos
theorem turn_two0 (elt it0 it1 : Expr) (x y : Str) (px py : Pos) (scope : Scope) (pos : Pos) (it acc : Value) (env : Env) :
    compTurn (two elt it0 it1 x y px py scope pos) 0 it acc env = (standAt it0.pos >>= fun _ => pyNext it >>= fun r => match r with
      | none => pure (.done .next)
      | some v => letOwnedTupleGo (.Name x px) it v >>= fun _ => assign (.Name x px) env v >>= fun _ =>
        (do let xx ← eval it1 env
            standAt it1.pos
            let xx ← foldedSetIterable it1 env xx
            let _ ← runOwn (.compStart (two elt it0 it1 x y px py scope pos) 1 (← holding [xx] (pyIter xx)) acc env) env
            again (.compLoop (two elt it0 it1 x y px py scope pos) 0 it acc env))) := by rfl
theorem turn_two1 (elt it0 it1 : Expr) (x y : Str) (px py : Pos) (scope : Scope) (pos : Pos) (it acc : Value) (env : Env) :
    compTurn (two elt it0 it1 x y px py scope pos) 1 it acc env = (standAt it1.pos >>= fun _ => pyNext it >>= fun r => match r with
      | none => pure (.done .next)
      | some v => letOwnedTupleGo (.Name y py) it v >>= fun _ => assign (.Name y py) env v >>= fun _ =>
        (eval elt env >>= fun z => call (.builtin "list.append") [acc, z] >>= fun _ => pure ()) >>= fun _ =>
          again (.compLoop (two elt it0 it1 x y px py scope pos) 1 it acc env)) := by rfl
section
variable {prog : Program} {w : World} {A : Around} {R : Result → Shared → Prop} {s : Shared} {elt it0 it1 : Expr} {x y : Str} {px py : Pos} {scope : Scope} {pos : Pos} {env : Env} {acc it : Value}
theorem start_two1 
    (h0 : codeAny (model prog w) A (.compLoop (two elt it0 it1 x y px py scope pos) 1 it acc env) R s)
    (h : wpAny (model prog w) A (pyIter it) (fun it' s' => codeAny (model prog w) A (.compLoop (two elt it0 it1 x y px py scope pos) 1 it' acc env) R s')
      (notedBy (model prog w) A env fun x s' => R (.error x) s') s) :
    codeAny (model prog w) A (.compStart (two elt it0 it1 x y px py scope pos) 1 it acc env) R s := by
  refine codeAny_of_tree ?_
  show wpAny _ _ ((compStart (two elt it0 it1 x y px py scope pos) 1 it acc env).onRaise (fun x => do noteFrame x env; standAt theWindowsPlace)) _ _ s
  refine wpAny_notedAt ?_
  unfold compStart
  show wpAny _ _ (ask >>= _) _ _ s
  refine wpAny_bind (wpAny_askSetting (wpAny_ite ?_))
  split
  · first
      | exact wpAny_bind (wpAny_pure (wpAny_pure (And.intro rfl h0)))
      | exact wpAny_pure (And.intro rfl h0)
  · first
      | exact wpAny_bind (wpAny_rule (wpAny_bind (wpAny_standAt (wpAny_bind (wpAny_mono h (fun it' s' h' => wpAny_pure (And.intro rfl h')) fun _ _ x => x)))))
      | (refine wpAny_bind (wpAny_rule ?_); show wpAny _ _ (standAt it1.pos >>= _) _ _ s; exact wpAny_bind (wpAny_standAt (wpAny_bind (wpAny_mono h (fun it' s' h' => wpAny_pure (And.intro rfl h')) fun _ _ x => x))))
theorem loop_two1 (I : Nat → Shared → Prop)
    (turn : ∀ n s, I n s → wpAny (model prog w) A (pyNext it) (fun r s₁ => match r with
      | none => R (.ok .next) s₁
      | some v => wpAny (model prog w) A (assign (.Name y py) env v) (fun _ s₂ => wpAny (model prog w) A (eval elt env) (fun x s₃ =>
          wpAny (model prog w) A (call (.builtin "list.append") [acc, x]) (fun _ s₄ => ∃ m, m < n ∧ I m s₄) (notedBy (model prog w) A env fun e s' => R (.error e) s') s₃)
          (notedBy (model prog w) A env fun e s' => R (.error e) s') s₂) (notedBy (model prog w) A env fun e s' => R (.error e) s') s₁) (notedBy (model prog w) A env fun e s' => R (.error e) s') s)
    (n : Nat) (h : I n s) : codeAny (model prog w) A (.compLoop (two elt it0 it1 x y px py scope pos) 1 it acc env) R s := by
  refine codeAny_loop rfl I (fun n s hI => ?_) n h
  show wpAny _ _ ((compTurn (two elt it0 it1 x y px py scope pos) 1 it acc env).onRaise (fun x => do noteFrame x env; theTreesLotGoes x)) _ _ s
  refine wpAny_noted ?_
  rw [turn_two1]
  refine wpAny_bind (wpAny_standAt (wpAny_bind (wpAny_mono (turn n s hI) (fun r s₁ h₁ => ?_) fun _ _ h' => h')))
  cases r with
  | none => exact wpAny_pure h₁
  | some v =>
    refine wpAny_bind (wpAny_of_eq rfl ?_)
    exact wpAny_bind (wpAny_mono h₁ (fun _ s₂ h₂ => wpAny_bind (wpAny_bind (wpAny_mono h₂ (fun x s₃ h₃ => wpAny_bind (wpAny_mono h₃
      (fun _ s₄ h₄ => wpAny_pure (wpAny_pure ⟨rfl, h₄⟩)) fun _ _ h' => h')) fun _ _ h' => h'))) fun _ _ h' => h')
theorem loop_two0 (hs : ∀ x, foldedSetIterable it1 env x = pure x) (I : Nat → Shared → Prop)
    (turn : ∀ n s, I n s → wpAny (model prog w) A (pyNext it) (fun r s₁ => match r with
      | none => R (.ok .next) s₁
      | some v => wpAny (model prog w) A (assign (.Name x px) env v) (fun _ s₂ => wpAny (model prog w) A (eval it1 env) (fun xx s₃ =>
          wpAny (model prog w) A (pyIter xx) (fun i1 s₄ => codeAny (model prog w) A (.compStart (two elt it0 it1 x y px py scope pos) 1 i1 acc env) (fun r s' => match r with | .ok _ => ∃ m, m < n ∧ I m s' | .error e => cameBackBy (model prog w) A env (notedBy (model prog w) A env fun e s' => R (.error e) s') e s') s₄) (notedBy (model prog w) A env fun e s' => R (.error e) s') s₃)
          (notedBy (model prog w) A env fun e s' => R (.error e) s') s₂) (notedBy (model prog w) A env fun e s' => R (.error e) s') s₁) (notedBy (model prog w) A env fun e s' => R (.error e) s') s)
    (n : Nat) (h : I n s) : codeAny (model prog w) A (.compLoop (two elt it0 it1 x y px py scope pos) 0 it acc env) R s := by
  refine codeAny_loop rfl I (fun n s hI => ?_) n h
  show wpAny _ _ ((compTurn (two elt it0 it1 x y px py scope pos) 0 it acc env).onRaise (fun x => do noteFrame x env; theTreesLotGoes x)) _ _ s
  refine wpAny_noted ?_
  rw [turn_two0]
  refine wpAny_bind (wpAny_standAt (wpAny_bind (wpAny_mono (turn n s hI) (fun r s₁ h₁ => ?_) fun _ _ h' => h')))
  cases r with
  | none => exact wpAny_pure h₁
  | some v =>
    refine wpAny_bind (wpAny_of_eq rfl ?_)
    refine wpAny_bind (wpAny_mono h₁ (fun _ s₂ h₂ => wpAny_bind (wpAny_mono h₂ (fun xx s₃ h₃ => ?_) fun _ _ h' => h')) fun _ _ h' => h')
    refine wpAny_bind (wpAny_standAt (wpAny_bind (wpAny_of_eq (hs xx) (wpAny_bind (wpAny_holding (wpAny_mono h₃ (fun i1 s₄ h₄ => wpAny_bind (wpAny_runOwn ?_)) fun _ _ h' => h'))))))
    rw [Around.mark_none]
    refine codeAny_mono h₄ fun r s' hr => ?_
    cases r with
    | ok f => exact wpAny_pure ⟨rfl, hr⟩
    | error e => exact hr
end
section
variable {prog : Program} {w : World} {A : Around} {s : Shared} {cenv : Env} {elt it0 it1 : Expr} {x y : Str} {px py : Pos} {scope : Scope} {pos : Pos} {D : Addr}
/-- heap `h'` keeps what `h` holds outside `bad` -/
noncomputable def Kp (bad : List Addr) (h h' : Heap) : Prop := ∀ b o, b ∉ bad → h.get? b = some o → h'.get? b = some o
theorem Kp.refl {bad : List Addr} {h : Heap} : Kp bad h h := fun _ _ _ e => e
theorem Kp.trans {bad : List Addr} {h h' h'' : Heap} (a : Kp bad h h') (b : Kp bad h' h'') : Kp bad h h'' := fun c o hc e => b c o hc (a c o hc e)
theorem Kp.mono {bad bad' : List Addr} {h h' : Heap} (a : Kp bad h h') (hb : ∀ b ∈ bad, b ∈ bad') : Kp bad' h h' := fun c o hc e => a c o (fun q => hc (hb c q)) e
inductive InI (St : Nat → Heap → Prop) (D C I1 : Addr) (x : Str) (v : Value) (ys : List Value) (T : Nat → Value → Prop) (n : Nat) (s : Shared) (k : Nat) (s' : Shared) : Prop
  | mk (h' : Heap) (tk : Nat) (zs : List Value) (mC' : Str → Option Value) (i : Nat) (e : s' = { s with heap := h', toks := tk }) (hst : St i h') (hk : Kp [D, C, I1] s.heap h') (hacc : h'.PlainList D (ys ++ zs).toArray) (hn : h'.Ns C mC') (hv : mC' x = some v) (hzs : zs.length = i) (hT : ∀ j r, zs[j]? = some r → T j r) (hi : i ≤ n) (hk2 : k = n + 1 - i) : InI St D C I1 x v ys T n s k s'
theorem comp2_in {R : Result → Shared → Prop} {I1 : Addr} {n : Nat} {P : Nat → Value → Prop} {St : Nat → Heap → Prop} {mC : Str → Option Value} {v : Value} {ys : List Value}
    (W : Walks prog w A I1 [I1] [I1] n P St) (hx : cenv.kindOf y = some .local) (hp : (cenv.scope.kind == .class || (cenv.scope.kind == .module && cenv.locals != cenv.globals)) = false)
    (hxy : x ≠ y) (hDC : D ≠ cenv.locals) (hDI : D ≠ I1) (hCI : cenv.locals ≠ I1) (hst : St 0 s.heap) (hacc : s.heap.PlainList D ys.toArray) (hn : s.heap.Ns cenv.locals mC) (hv : mC x = some v) (T : Nat → Value → Prop)
    (helt : ∀ j u h tk mC E', j < n → P j u → Kp [D, cenv.locals, I1] s.heap h → h.Ns cenv.locals mC → mC x = some v → mC y = some u →
      wpAny (model prog w) A (eval elt cenv) (fun r s₃ => T j r ∧ ∃ tk', s₃ = { s with heap := h, toks := tk' }) E' { s with heap := h, toks := tk })
    (hsz : ys.length ≤ 1000000) (hn1 : n ≤ 1000)
    (hR : ∀ h' tk zs mC', Kp [D, cenv.locals, I1] s.heap h' → h'.PlainList D (ys ++ zs).toArray → zs.length = n → (∀ j r, zs[j]? = some r → T j r) → h'.Ns cenv.locals mC' → R (.ok .next) { s with heap := h', toks := tk }) :
    codeAny (model prog w) A (.compLoop (two elt it0 it1 x y px py scope pos) 1 (.ref I1) (.ref D) cenv) R s := by
  refine loop_two1 (InI St D cenv.locals I1 x v ys T n s) ?_ (n + 1)
    ⟨s.heap, s.toks, [], mC, 0, rfl, hst, Kp.refl, by simpa using hacc, hn, hv, rfl, fun j r h => by simp at h, Nat.zero_le _, rfl⟩
  rintro k s' ⟨h', tk, zs, mC', i, rfl, hst', hk', hacc', hn', hv', hzs, hT, hi, rfl⟩
  have hIw : ∀ b, b ≠ I1 → b ∉ [I1] := fun b hb q => hb (List.mem_singleton.mp q)
  by_cases hlt : i < n
  · refine W.item i _ _ _ hlt hst' fun u h₁ tk₁ hPu hst₁ hk₁ => ?_
    refine wpAny_assign_Name (wpAny_storeName_local hx (hn'.at' fun o e => hk₁ _ o (hIw _ hCI) e) (fun h₂ hn₂ hs₂ => ?_) hp)
    have keep₂ : ∀ b o, b ≠ cenv.locals → h₁.get? b = some o → h₂.get? b = some o := fun b o hb e => hs₂.extBut b o hb e
    have k₂ : Kp [D, cenv.locals, I1] s.heap h₂ := fun b o hb e => keep₂ b o (fun q => hb (q ▸ .tail _ (.head _))) (hk₁ b o (hIw _ fun q => hb (q ▸ .tail _ (.tail _ (.head _)))) (hk' b o hb e))
    have hst₂ : St (i + 1) h₂ := W.frame _ _ _ hst₁ fun b hb o e => keep₂ b o (fun q => hCI ((List.mem_singleton.mp hb) ▸ q.symm)) e
    have hacc₂ : h₂.PlainList D (ys ++ zs).toArray := (hacc'.at fun o e => hk₁ _ o (hIw _ hDI) e).at fun o e => keep₂ _ o hDC e
    refine wpAny_mono (helt i u h₂ _ _ _ hlt hPu k₂ hn₂ (by simp [hxy, hv']) (by simp)) (fun r s₃ h₃ => ?_) fun _ _ e => e
    obtain ⟨hTr, tk₃, rfl⟩ := h₃
    refine wpAny_list_append_plain (hsz := by rw [List.size_toArray, List.length_append]; unfold sizeLine; lia  ) hacc₂ fun h₅ hl₅ hs₅ => ?_
    refine ⟨n + 1 - (i + 1), by lia  , h₅, tk₃, zs ++ [r], _, i + 1, rfl, ?_, ?_, ?_, hn₂.sameBut hs₅ (Ne.symm hDC), (by simp [hxy, hv']), (by simp [hzs]), ?_, hlt, rfl⟩
    · exact W.frame _ _ h₅ hst₂ fun b hb o e => hs₅.extBut b o (fun h => hDI (h ▸ List.mem_singleton.mp hb)) e
    · exact fun b o hb e => hs₅.extBut b o (fun q => hb (q ▸ .head _)) (k₂ b o hb e)
    · simpa using hl₅
    · intro j q hj
      by_cases hjl : j < zs.length
      · exact hT j q (by rwa [List.getElem?_append_left hjl] at hj)
      · rw [List.getElem?_append_right (by lia  )] at hj
        by_cases hj0 : j - zs.length = 0
        · rw [hj0] at hj
          have : j = i := by lia  
          subst this
          simp at hj
          exact hj ▸ hTr
        · rw [List.getElem?_eq_none (by simp; lia  )] at hj; cases hj
  · have hin : i = n := by lia  
    refine W.done _ _ _ (hin ▸ hst') fun h₁ tk₁ hk₁ => ?_
    refine hR h₁ tk₁ zs mC' (fun b o hb e => hk₁ b o (hIw _ fun q => hb (q ▸ .tail _ (.tail _ (.head _)))) (hk' b o hb e)) (hacc'.at fun o e => hk₁ _ o (hIw _ hDI) e) (by lia  ) hT (hn'.at' fun o e => hk₁ _ o (hIw _ hCI) e)
inductive OutI (St : Nat → Heap → Prop) (D C : Addr) (wr : List Addr) (J : Nat → List Value → Prop) (cl n : Nat) (s : Shared) (k : Nat) (s' : Shared) : Prop
  | mk (h' : Heap) (tk : Nat) (ys : List Value) (mC' : Str → Option Value) (i : Nat) (e : s' = { s with heap := h', toks := tk }) (hst : St i h') (hk : Kp (D :: C :: wr) s.heap h') (hacc : h'.PlainList D ys.toArray) (hn : h'.Ns C mC') (hJ : J i ys) (hys : ys.length ≤ i * cl) (hi : i ≤ n) (hk2 : k = n + 1 - i) : OutI St D C wr J cl n s k s'
theorem comp2_out {R : Result → Shared → Prop} {I : Addr} {fp wr : List Addr} {n : Nat} {P : Nat → Value → Prop} {St : Nat → Heap → Prop} {mC : Str → Option Value} {c : Str} {tc : Tok}
    (W : Walks prog w A I fp wr n P St) (hh : A.handled = none) (hs : ∀ x, foldedSetIterable it1 cenv x = pure x) (hx : cenv.kindOf x = some .local) (hy : cenv.kindOf y = some .local) (hp : (cenv.scope.kind == .class || (cenv.scope.kind == .module && cenv.locals != cenv.globals)) = false)
    (hxy : x ≠ y) (hDC : D ≠ cenv.locals) (hDf : D ∉ fp) (hCf : cenv.locals ∉ fp)
    (hst : St 0 s.heap) (hacc : s.heap.PlainList D #[]) (hn : s.heap.Ns cenv.locals mC)
    (T : Value → Nat → Value → Prop)
    (hit1 : ∀ h tk mC E', Kp (D :: cenv.locals :: wr) s.heap h → h.Ns cenv.locals mC →
      wpAny (model prog w) A (eval it1 cenv) (fun r s₃ => r = .str c tc ∧ ∃ tk', s₃ = { s with heap := h, toks := tk' }) E' { s with heap := h, toks := tk })
    (helt : ∀ i v j d tv h tk mC E', i < n → P i v → c.cps[j]? = some d → Kp (D :: cenv.locals :: wr) s.heap h → h.Ns cenv.locals mC → mC x = some v → mC y = some (.str ⟨#[d]⟩ tv) →
      wpAny (model prog w) A (eval elt cenv) (fun r s₃ => T v j r ∧ ∃ tk', s₃ = { s with heap := h, toks := tk' }) E' { s with heap := h, toks := tk })
    (J : Nat → List Value → Prop) (h0 : J 0 [])
    (hJ : ∀ i v ys zs, i < n → P i v → J i ys → zs.length = c.length → (∀ j r, zs[j]? = some r → T v j r) → J (i + 1) (ys ++ zs))
    (hn1 : n ≤ 1000) (hc1 : c.length ≤ 1000)
    (hR : ∀ h' tk ys mC', Kp (D :: cenv.locals :: wr) s.heap h' → h'.PlainList D ys.toArray → J n ys → h'.Ns cenv.locals mC' → R (.ok .next) { s with heap := h', toks := tk }) :
    codeAny (model prog w) A (.compLoop (two elt it0 it1 x y px py scope pos) 0 (.ref I) (.ref D) cenv) R s := by
  have hCw : cenv.locals ∉ wr := fun h => hCf (W.sub _ h)
  have hDw : D ∉ wr := fun h => hDf (W.sub _ h)
  refine loop_two0 hs (OutI St D cenv.locals wr J c.length n s) ?_ (n + 1)
    ⟨s.heap, s.toks, [], mC, 0, rfl, hst, Kp.refl, hacc, hn, h0, Nat.zero_le _, Nat.zero_le _, rfl⟩
  rintro k s' ⟨h', tk, ys, mC', i, rfl, hst', hk', hacc', hn', hJi, hys, hi, rfl⟩
  by_cases hlt : i < n
  · refine W.item i _ _ _ hlt hst' fun v h₁ tk₁ hPv hst₁ hk₁ => ?_
    refine wpAny_assign_Name (wpAny_storeName_local hx (hn'.at' fun o e => hk₁ _ o hCw e) (fun h₂ hn₂ hs₂ => ?_) hp)
    have keep₂ : ∀ b o, b ≠ cenv.locals → h₁.get? b = some o → h₂.get? b = some o := fun b o hb e => hs₂.extBut b o hb e
    have k₂ : Kp (D :: cenv.locals :: wr) s.heap h₂ := fun b o hb e => keep₂ b o (fun q => hb (q ▸ .tail _ (.head _))) (hk₁ b o (fun q => hb (.tail _ (.tail _ q))) (hk' b o hb e))
    have hst₂ : St (i + 1) h₂ := W.frame _ _ _ hst₁ fun b hb o e => keep₂ b o (fun q => hCf (q ▸ hb)) e
    have hacc₂ : h₂.PlainList D ys.toArray := (hacc'.at fun o e => hk₁ _ o hDw e).at fun o e => keep₂ _ o hDC e
    have hv₂ : (fun z => if z = x then some v else mC' z) x = some v := by simp
    refine wpAny_mono (hit1 h₂ _ _ _ k₂ hn₂) (fun xx s₃ h₃ => ?_) fun _ _ e => e
    obtain ⟨rfl, tk₃, rfl⟩ := h₃
    refine wpAny_pyIter_str fun o St1 W1 hst1 => ?_
    dsimp only at W1 hst1 ⊢
    have hD2 : D < h₂.objs.size := by obtain ⟨k, hk⟩ := hacc₂; exact Heap.lt_size hk
    have hC2 : cenv.locals < h₂.objs.size := hn₂.lt
    have pk : ∀ b o', h₂.get? b = some o' → (h₂.push o).get? b = some o' := fun b o' e => Heap.get?_push_of_some _ e
    have kk : ∀ h₄, Kp [D, cenv.locals, h₂.objs.size] (h₂.push o) h₄ → ∀ b o', b ≠ D → b ≠ cenv.locals → h₂.get? b = some o' → h₄.get? b = some o' := fun h₄ hk₄ b o' h1 h2 e => hk₄ b o' (fun q => by
      simp only [List.mem_cons, List.not_mem_nil, or_false] at q
      rcases q with q | q | q
      · exact h1 q
      · exact h2 q
      · exact absurd (Heap.lt_size e) (q ▸ Nat.lt_irrefl _)) (pk b o' e)
    have kw : ∀ h₄, Kp [D, cenv.locals, h₂.objs.size] (h₂.push o) h₄ → Kp (D :: cenv.locals :: wr) s.heap h₄ := fun h₄ hk₄ b o' hb e => kk h₄ hk₄ b o' (fun q => hb (q ▸ .head _)) (fun q => hb (q ▸ .tail _ (.head _))) (k₂ b o' hb e)
    have hlen : ys.length ≤ 1000000 := Nat.le_trans hys (Nat.le_trans (Nat.mul_le_mul (Nat.le_trans hi hn1) hc1) (by decide))
    have loop : codeAny (model prog w) A (.compLoop (two elt it0 it1 x y px py scope pos) 1 (.ref h₂.objs.size) (.ref D) cenv) (fun r s' => match r with | .ok _ => ∃ m, m < n + 1 - i ∧ OutI St D cenv.locals wr J c.length n s m s' | .error e => cameBackBy (model prog w) A cenv (notedBy (model prog w) A cenv fun e s' => R (.error e) s') e s') { s with heap := h₂.push o, toks := tk₃ } := by
      refine comp2_in (W1 A hh) hy hp hxy hDC (Nat.ne_of_lt hD2) (Nat.ne_of_lt hC2) hst1 (hacc₂.at fun o e => pk _ o e) (hn₂.at' fun o e => pk _ o e) hv₂ (fun j r => T v j r) (fun j u h tk mC E' hj hPu hk hn hm1 hm2 => ?_) hlen hc1 fun h₅ tk₅ zs mC₅ hk₅ hpl₅ hzs hT₅ hn₅ => ?_
      · obtain ⟨d, tv, hd, rfl⟩ := hPu
        exact helt i v j d tv h tk mC E' hlt hPv hd (kw h hk) hn hm1 hm2
      · refine ⟨n + 1 - (i + 1), by lia  , h₅, tk₅, ys ++ zs, mC₅, i + 1, rfl, ?_, kw h₅ hk₅, hpl₅, hn₅, hJ i v ys zs hlt hPv hJi hzs hT₅, ?_, hlt, rfl⟩
        · exact W.frame _ _ _ hst₂ fun b hb o' e => kk h₅ hk₅ b o' (fun q => hDf (q ▸ hb)) (fun q => hCf (q ▸ hb)) e
        · rw [List.length_append, Nat.succ_mul, hzs]; exact Nat.add_le_add hys (Nat.le_refl _)
    exact start_two1 loop ((W1 A hh).self 0 _ _ _ hst1 loop)
  · have hin : i = n := by lia  
    refine W.done _ _ _ (hin ▸ hst') fun h₁ tk₁ hk₁ => ?_
    exact hR h₁ tk₁ ys mC' (fun b o hb e => hk₁ b o (fun q => hb (.tail _ (.tail _ q))) (hk' b o hb e)) (hacc'.at fun o e => hk₁ _ o hDw e) (hin ▸ hJi) (hn'.at' fun o e => hk₁ _ o hCw e)
end
section
variable {prog : Program} {w : World} {A : Around} {s : Shared} {env : Env} {h₀ : Heap} {E : Value → Shared → Prop} {elt it0 it1 : Expr} {x y z : Str} {px py pz : Pos} {scope : Scope} {pos spos : Pos} {cl : List (Str × Addr)}
noncomputable def TwoE (prog : Program) (w : World) (A : Around) (E : Value → Shared → Prop) (env : Env) (scope : Scope) (cl : List (Str × Addr)) (elt it0 it1 : Expr) (x y z : Str) (px py pz pos : Pos) (Q : Flow → Shared → Prop) (it : Value) (s₂ : Shared) : Prop :=
  wpAny (model prog w) A (newList []) (fun acc s₃ => wpAny (model prog w) A (newFunctionEnv scope env.globals cl [] env.qual none .none (some env)) (fun cenv s₄ =>
      codeAny (model prog w) A (.compStart (two elt it0 it1 x y px py scope pos) 0 it acc { cenv with scope := relabel scope env }) (compPost (model prog w) A E (some (assign (.Name z pz) env)) (fun _ s' => Q .next s') acc cenv.locals) s₄) E s₃) E s₂
theorem AssignTwo {Q : Flow → Shared → Prop}
    (hsw : swapsWith (two elt it0 it1 x y px py scope pos) (some (.Name z pz)) spos.line env = pure true)
    (hclos : closureFor scope env = pure cl) (hkind : scope.kind = .function)
    (hnames : ∀ y ∈ scope.names, y.2 = .local → scope.names.lookup y.1 = some .local)
    (h : wpAny (model prog w) A (eval it0 env) (fun xv s₁ => wpAny (model prog w) A (pyIter xv) (fun it s₂ => TwoE prog w A E env scope cl elt it0 it1 x y z px py pz pos Q it s₂) E s₁) E s)
    (hs : ∀ x, foldedSetIterable it0 env x = pure x := by intro _; rfl) :
    wpAny (model prog w) A (exec (.Assign [.Name z pz] (two elt it0 it1 x y px py scope pos) spos) env) Q E s := by
  rw [exec_Assign_Name_used _ _ _ _ hsw]
  refine wpAny_bind (wpAny_standAt (wpAny_bind ?_))
  show wpAny _ A (do let _ ← comprehension (two elt it0 it1 x y px py scope pos) scope env _ (newList []) false (eval it0 env) (some (assign (.Name z pz) env))) _ _ s
  exact wpAny_bind (wpAny_mono (wpAny_comprehension_free (use := some (assign (.Name z pz) env)) (Q := fun _ s' => Q .next s') rfl hs hclos hkind hnames
    (wpAny_mono h (fun xv s₁ h₁ => wpAny_mono h₁ (fun it s₂ h₂ => h₂) fun _ _ e => e) fun _ _ e => e)) (fun _ s' hq => wpAny_pure (wpAny_pure hq)) fun _ _ e => e)
theorem nl {a b : Nat} (h : a < b) : a ≠ b := Nat.ne_of_lt h
theorem nl' {a b : Nat} (h : b < a) : a ≠ b := Nat.ne_of_gt h
theorem two_list {Q : Flow → Shared → Prop} {l : Addr} {vs : List Value} {k : Nat} {m : Str → Option Value} {news : List (Addr × Obj)} {c : Str} {tc : Tok} (hh : A.handled = none)
    (hcell : ∀ y ∈ scope.names, y.2 ≠ .cell) (hkind : scope.kind = .function) (hx : scope.names.lookup x = some .local) (hy : scope.names.lookup y = some .local) (hxy : x ≠ y)
    (hz : env.kindOf z = some .local) (hp : (env.scope.kind == .class || (env.scope.kind == .module && env.locals != env.globals)) = false)
    (hs : ∀ C x, foldedSetIterable it1 (compEnvC scope cl C env) x = pure x)
    (F : Fr h₀ env.locals s.heap m) (N : News h₀ env.locals s.heap news) (hm : (l, W.listOf vs.toArray k) ∈ news) (hsz : vs.length ≤ 1000) (hc1 : c.length ≤ 1000)
    (T : Value → Nat → Value → Prop)
    (hit1 : ∀ C h tk mC E', Fr h₀ env.locals h m → News h₀ env.locals h news → h.Ns C mC → 
      wpAny (model prog w) A (eval it1 (compEnvC scope cl C env)) (fun r s₃ => r = .str c tc ∧ ∃ tk', s₃ = { s with heap := h, toks := tk' }) E' { s with heap := h, toks := tk })
    (helt : ∀ C (i : Nat) v (j : Nat) d tv h tk mC E', vs[i]? = some v → c.cps[j]? = some d → Fr h₀ env.locals h m → News h₀ env.locals h news → h.Ns C mC → mC x = some v → mC y = some (.str ⟨#[d]⟩ tv) →
      wpAny (model prog w) A (eval elt (compEnvC scope cl C env)) (fun r s₃ => T v j r ∧ ∃ tk', s₃ = { s with heap := h, toks := tk' }) E' { s with heap := h, toks := tk })
    (J : Nat → List Value → Prop) (h0 : J 0 [])
    (hJ : ∀ (i : Nat) v ys zs, vs[i]? = some v → J i ys → zs.length = c.length → (∀ j r, zs[j]? = some r → T v j r) → J (i + 1) (ys ++ zs))
    (done : ∀ D h' tk ys k, s.heap.objs.size < D → Fr h₀ env.locals h' (fun a => if a = z then some (.ref D) else m a) → News h₀ env.locals h' ((D, W.listOf ys.toArray k) :: news) → (∀ q ∈ news, q.1 ≠ D) → J vs.length ys → Q .next { s with heap := h', toks := tk }) :
    wpAny (model prog w) A (pyIter (.ref l)) (fun it s₂ => TwoE prog w A E env scope cl elt it0 it1 x y z px py pz pos Q it s₂) E s := by
  have hl : s.heap.IsList l vs.toArray := ⟨_, (N _ hm).1, rfl, k, rfl⟩
  have hlt : l < s.heap.objs.size := Heap.lt_size (N _ hm).1
  refine wpAny_pyIter_list hl ?_
  have W := Walks.list (prog := prog) (w := w) hh s.heap.objs.size l (Nat.ne_of_lt hlt) vs.toArray
  unfold TwoE
  have hL1 : LT.lt (α := Nat) env.locals s.heap.objs.size := F.ns.lt
  generalize hH1 : s.heap.push _ = H1
  have hI0 : H1.get? s.heap.objs.size = some _ := hH1 ▸ Heap.get?_push_size _ rfl
  have sz1 : H1.objs.size = s.heap.objs.size + 1 := by rw [← hH1, Heap.size_push]
  refine wpAny_newObj_type (wpAny_newFunctionEnv hcell (by intro y hy; simp at hy) (fun h₁ hns₁ hsb₁ => ?_) hkind)
  dsimp only at hns₁ hsb₁ ⊢
  generalize hH2 : H1.push { cls := .type "list", dict := none, data := .seq ([] : List Value).toArray } = H2 at hns₁ hsb₁ ⊢
  have sz2 : H2.objs.size = H1.objs.size + 1 := by rw [← hH2, Heap.size_push]
  have old : ∀ b o, b ≠ H2.objs.size → H1.get? b = some o → h₁.get? b = some o := fun b o hb e => hsb₁.extBut b o hb (Heap.get?_push_of_some _ (hH2 ▸ Heap.get?_push_of_some _ e))
  have old0 : ∀ b o, s.heap.get? b = some o → h₁.get? b = some o := fun b o e => old b o (nl (by have : LT.lt (α := Nat) b s.heap.objs.size := Heap.lt_size e; lia  )) (hH1 ▸ Heap.get?_push_of_some _ e)
  have hacc : h₁.PlainList H1.objs.size #[] := ⟨_, hsb₁.extBut _ _ (nl (by lia  )) (Heap.get?_push_of_some _ (hH2 ▸ Heap.get?_push_size _ rfl))⟩
  have new : ∀ a, s.heap.objs.size ≤ a → h₀.get? a = none := fun a ha => by
    cases e : h₀.get? a with
    | none => rfl
    | some o' => exact absurd (Heap.lt_size (F.keep _ _ e)) (Nat.not_lt.mpr ha)
  have keepF : ∀ h, Kp (H1.objs.size :: H2.objs.size :: [s.heap.objs.size]) h₁ h → Fr h₀ env.locals h m ∧ News h₀ env.locals h news := fun h hk => by
    have key : ∀ b o, s.heap.get? b = some o → h.get? b = some o := fun b o e => hk b o (fun q => by
      have hb : LT.lt (α := Nat) b s.heap.objs.size := Heap.lt_size e
      simp only [List.mem_cons, List.not_mem_nil, or_false] at q
      rcases q with q | q | q <;> (rw [q] at hb; lia  )) (old0 b o e)
    exact ⟨⟨F.ns.at' fun o e => key _ o e, fun b o e => key b o (F.keep b o e), F.above⟩, fun q hq => ⟨key _ _ (N q hq).1, (N q hq).2⟩⟩
  have loop : ∀ s₃ : Shared, s₃ = { s with heap := h₁, toks := s.toks + ([] : List (Str × Value)).length } →
      codeAny (model prog w) A (.compLoop (two elt it0 it1 x y px py scope pos) 0 (.ref s.heap.objs.size) (.ref H1.objs.size) (compEnvC scope cl H2.objs.size env))
        (compPost (model prog w) A E (some (assign (.Name z pz) env)) (fun _ s' => Q .next s') (.ref H1.objs.size) H2.objs.size) s₃ := by
    rintro s₃ rfl
    refine comp2_out (cenv := compEnvC scope cl H2.objs.size env) W hh (hs _) (lookup_relabel_local hx) (lookup_relabel_local hy) (by simp [compEnvC, relabel, hkind]) hxy (show H1.objs.size ≠ H2.objs.size from nl (by lia  )) ?_ ?_ ?_ hacc hns₁ T
      (fun h tk mC E' hk hn => hit1 H2.objs.size h tk mC E' (keepF h hk).1 (keepF h hk).2 hn)
      (fun i v j d tv h tk mC E' hi hP hd hk hn h1 h2 => helt H2.objs.size i v j d tv h tk mC E' (by simpa using hP) hd (keepF h hk).1 (keepF h hk).2 hn h1 h2) J h0 (fun i v ys zs hi hP => hJ i v ys zs (by simpa using hP)) (by simpa using hsz) hc1 ?_
    · intro q
      have hlt' : LT.lt (α := Nat) l s.heap.objs.size := hlt
      simp only [List.mem_cons, List.not_mem_nil, or_false] at q
      rcases q with q | q
      · exact absurd q (nl' (by lia  ))
      · exact absurd q (nl' (by lia  ))
    · intro q
      have hlt' : LT.lt (α := Nat) l s.heap.objs.size := hlt
      have q : H2.objs.size ∈ [s.heap.objs.size, l] := q
      simp only [List.mem_cons, List.not_mem_nil, or_false] at q
      rcases q with q | q
      · exact absurd q (nl' (by lia  ))
      · exact absurd q (nl' (by lia  ))
    · exact ⟨⟨_, old _ _ (nl (by lia  )) hI0, rfl, rfl⟩, hl.at fun o e => old0 _ o e⟩
    · intro h' tk ys mC' hk hpl hJn hn
      obtain ⟨kk, hpl⟩ := hpl
      obtain ⟨F', N'⟩ := keepF h' hk
      show wpAny _ A (assign (.Name z pz) env (.ref H1.objs.size)) _ _ _
      refine wpAny_assign_Name (wpAny_storeName_local hz F'.ns (fun h₂ hn₂ hs₂ => ?_) hp)
      have hn' : h'.Ns H2.objs.size mC' := hn
      refine ⟨mC', hn'.sameBut hs₂ (nl' (by lia  )), fun h₃ hs₃ => ?_⟩
      have F₂ := F'.set hn₂ hs₂
      have hJn' : J vs.length ys := by simpa using hJn
      refine done H1.objs.size h₃ _ ys kk (by lia  ) ⟨F₂.ns.at' fun o e => hs₃.extBut _ o (nl (by lia  )) e, fun b o e => hs₃.extBut b o (fun q => by rw [q, new _ (by lia  )] at e; cases e) (F₂.keep b o e), F₂.above⟩ (fun q hq => ?_) (fun q hq e => ?_) hJn'
      · rcases List.mem_cons.mp hq with rfl | hq
        · exact ⟨hs₃.extBut _ _ (nl (by lia  )) (hs₂.extBut _ _ (nl' (by lia  )) hpl), nl' (by lia  ), new _ (by dsimp only; lia  )⟩
        · have hql : LT.lt (α := Nat) q.1 s.heap.objs.size := Heap.lt_size (N q hq).1
          exact ⟨hs₃.extBut _ _ (nl (by lia  )) (hs₂.extBut _ _ (N q hq).2.1 (N' q hq).1), (N q hq).2⟩
      · have hql : LT.lt (α := Nat) q.1 s.heap.objs.size := Heap.lt_size (N q hq).1
        exact absurd e (nl (by lia  ))
  exact codeAny_compStart_list (loop _ rfl) (W.self 0 _ _ _ ⟨⟨_, old _ _ (nl (by lia  )) hI0, rfl, rfl⟩, hl.at fun o e => old0 _ o e⟩ (loop _ rfl))
end
end Mine
end
section
open PySem PySem.W PyProof.Rows
open PySem.Builtin PySem.Builtin.Str
set_option maxRecDepth 100000
set_option maxHeartbeats 8000000
namespace Mine
local macro_rules | `(tactic| walk_at "my enterC") => `(tactic| (refine' code_defC ?k1 ?k2 ?k3 ?k4 ?k5 ?kA ?kF ?kK ?k6 ?k7 ?k8 ?k9 ?kB ?kD ?_ ?c2 ?c3 ?c4; (case kA => exact rfl); (case kF => exact rfl); (case kK => assumption); (case k1 => k_asm); (case k2 => k_asm); (case k3 => k_asm); (case k4 => k_asm); (case k5 => k_asm); (case k6 => k_is); (case k7 => k_is); (case k8 => ktr_room); (case k9 => exact BindsTo.of_eq rfl); (case kB => exact rfl); (case kD => decide +kernel); (case c2 => exact rfl); (case c3 => exact rfl); (case c4 => exact rfl); k_whole; intro g' L' h' tk' cells' FG' F' N' Y' B' X' T' l1; (try k_lt l1); k_cells Y'; (try simp only [List.cons_append, List.nil_append] at N'); (try dsimp only); (try k_lift B'); (try k_fold)))
local macro_rules | `(tactic| walk_at "my enter") => `(tactic| (refine wpAny_call ?_; first | k_dflt cell_enter | k_dflt (walk_at "my enterC") | fail "not entered"))
local macro_rules | `(tactic| walk_at "my start") => `(tactic| (w_top on; w_on; unfold Ct; k_fill; intro dp un gd cn cs a ccd cl outer A₀ base h₀ L m s Q E hB hF hX hN hT hK hDp hUn hret; walk_at "my enter"))
local macro_rules | `(tactic| walk_at "truthy str") => `(tactic| (first | refine truthy_pos (by omega) (by omega) ?_ | refine truthy_nil (by omega) ?_); intro _)
local macro_rules | `(tactic| walk_at "exec For Name Name cons nil") => `(tactic| (k_here; (rename Fr _ _ _ _ => lF'); (with_unfolding_all refine' For_G lF' ?k1 ?k2 ?_; (case k1 => exact rfl); (case k2 => exact rfl); k_whole)))
local macro_rules | `(tactic| walk_at "exec For Name Call cons nil") => `(tactic| (k_here; (rename Fr _ _ _ _ => lF'); (with_unfolding_all refine' For_G lF' ?k1 ?k2 ?_; (case k1 => exact rfl); (case k2 => exact rfl); k_whole)))
local macro_rules | `(tactic| walk_at "my uses") => `(tactic| ((case B => k_asm); (case F => k_asm); (case X => k_asm); (case N => k_asm); (case T => k_asm); (case K => first | exact rfl | assumption); (case d => first | exact room_d (by assumption) (by rfl) | omega | ((try simp only [depth_deeper]); (try dsimp only [ktrTop]); omega)); (case u => first | exact room_u (by assumption) (by rfl) | omega | ((try simp only [Around.deeper_units]); (try dsimp only [ktrTop]); omega))))
local macro_rules | `(tactic| walk_at "compareOp In int ref") => `(tactic| (refine in_list_ints (isList_of (by k_asm) (by k_mem)) (by assumption) ?_))
local macro_rules | `(tactic| walk_at "my sub") => `(tactic| (intro p hp; first | exact hp | (simp only [List.mem_cons, List.mem_append, List.not_mem_nil, or_false, false_or] at hp ⊢; grind)))
local macro_rules | `(tactic| walk_at "my news") => `(tactic| first | k_asm | (refine' news_sub ?nsN ?nsS; (case nsN => k_asm); (case nsS => walk_at "my sub")))
local macro_rules | `(tactic| walk_at "eval ListComp") => `(tactic| (k_here; (rename Fr _ _ _ _ => lF'); (with_unfolding_all refine' ListComp_G lF' ?c1 ?c2 ?c3 ?c4 ?c5 ?_ ?c6; (case c1 => with_unfolding_all rfl); (case c2 => decide); (case c3 => exact rfl); (case c4 => decide); (case c5 => with_unfolding_all rfl); (case c6 => (intro _; with_unfolding_all rfl)))))
section
open PySem PySem.W PyProof.Rows
open PySem.Builtin PySem.Builtin.Str
set_option maxRecDepth 100000
set_option maxHeartbeats 8000000


local macro_rules | `(tactic| walk_at "exec For Name Name cons nil") => `(tactic| (k_here; (rename Fr _ _ _ _ => lF'); (with_unfolding_all refine' For_S lF' ?k1 ?k2 ?_; (case k1 => exact rfl); (case k2 => exact rfl); k_whole)))
local macro_rules | `(tactic| walk_at "exec For Name Call cons nil") => `(tactic| (k_here; (rename Fr _ _ _ _ => lF'); (with_unfolding_all refine' For_S lF' ?k1 ?k2 ?_; (case k1 => exact rfl); (case k2 => exact rfl); k_whole)))

noncomputable def choicesF (p : List Nat) : Nat → List (List Nat)
  | 0 => [p.take 1]
  | n + 1 => (choicesF p n).flatMap fun w => p.map fun d => w ++ [d]
theorem choices_len (p : List Nat) (hp : p.length = 2) : ∀ n, (choicesF p n).length = 2 ^ n ∧ ∀ w ∈ choicesF p n, w.length = n + 1
  | 0 => ⟨rfl, fun w hw => by simp only [choicesF, List.mem_singleton] at hw; rw [hw, List.length_take, hp]; rfl⟩
  | n + 1 => by
    obtain ⟨h1, h2⟩ := choices_len p hp n
    constructor
    · show ((choicesF p n).flatMap fun w => p.map fun d => w ++ [d]).length = _
      rw [List.length_flatMap]
      simp only [List.length_map, hp]
      rw [List.map_const', List.sum_replicate_nat, h1, Nat.pow_succ]
    · intro w hw
      simp only [choicesF, List.mem_flatMap, List.mem_map] at hw
      obtain ⟨u, hu, d, _, rfl⟩ := hw
      rw [List.length_append, h2 u hu]; rfl
theorem len_two {α : Type} : ∀ {l : List α}, l.length = 2 → ∃ a b, l = [a, b]
  | [a, b], _ => ⟨a, b, rfl⟩
theorem item0 {x : Str} (h : x.length = 2) : Txt.item x 0 = S ((ls x).take 1) := by
  rw [item_meets ⟨Int.le_refl _, by lia  ⟩]
  apply str_ext
  rw [ls_S]
  show [x.cps.getD 0 0] = _
  obtain ⟨⟨l⟩⟩ := x
  obtain ⟨a, b, rfl⟩ := len_two h
  rfl
theorem strsAre_two {zs : List Value} {x : Str} (p : List Nat) (hp : p.length = 2) (hz : zs.length = 2) (hT : ∀ (j : Nat) r, zs[j]? = some r → ∃ ty, r = .str (x ++ S [p.getD j 0]) ty) : StrsAre zs (p.map fun d => x ++ S [d]) := by
  obtain ⟨a, b, rfl⟩ := len_two hz
  obtain ⟨c, d, rfl⟩ := len_two hp
  obtain ⟨t1, rfl⟩ := hT 0 a rfl
  obtain ⟨t2, rfl⟩ := hT 1 b rfl
  exact .cons _ _ (.cons _ _ .nil)
noncomputable def isCat (p : List Nat) (v : Value) (j : Nat) (r : Value) : Prop := ∃ x tx ty, v = .str x tx ∧ r = .str (x ++ S [p.getD j 0]) ty
theorem frame_at {m : Str → Option Value} {a : Str} {v : Option Value} (h : m a = v) : m = fun y => if y = a then v else m y := by
  funext y
  by_cases e : y = a
  · rw [if_pos e, e, h]
  · rw [if_neg e]
noncomputable def stepF (p w : List Nat) : List Str := p.map fun d => S (w ++ [d])
theorem choices_step {p : List Nat} (hp : p.length = 2) {ws : List Value} {C : List (List Nat)} (hws : StrsAre ws (C.map S)) {i : Nat} {v : Value} {ys zs : List Value} (hv : ws[i]? = some v) (hy : StrsAre ys ((C.take i).flatMap (stepF p)))
    (hz : zs.length = 2) (hT : ∀ (j : Nat) r, zs[j]? = some r → ∃ x tx ty, v = .str x tx ∧ r = .str (x ++ S [p.getD j 0]) ty) : StrsAre (ys ++ zs) ((C.take (i + 1)).flatMap (stepF p)) := by
  obtain ⟨x, tx, rfl, hx⟩ := StrsAre.item hws i v hv
  rw [List.getElem?_map] at hx
  cases hc : C[i]? with
  | none => rw [hc] at hx; cases hx
  | some u =>
    rw [hc] at hx
    have hx : S u = x := by simpa using hx
    subst hx
    rw [List.take_add_one, hc, List.flatMap_append]
    refine StrsAre.append' hy ?_
    have := strsAre_two (x := S u) p hp hz fun j r hr => by
      obtain ⟨x', tx', ty, e1, e2⟩ := hT j r hr
      cases e1
      exact ⟨ty, e2⟩
    simpa [stepF, S_append] using this
noncomputable def isL (xs : List Str) (news : List (Addr × Obj)) : Value → List (Addr × Obj) → Array GenState → Array GenState → Prop := fun v news' g g' => ∃ D ws k, v = .ref D ∧ news' = (D, W.listOf ws.toArray k) :: news ∧ StrsAre ws xs ∧ g' = g
theorem ret_isL {h₀ h' : Heap} {L D : Addr} {m : Str → Option Value} {news : List (Addr × Obj)} {s : Shared} {Q : Value → Shared → Prop} {xs : List Str} {ws : List Value} {k : Nat} {tk' : Nat}
    (hret : ∀ v news' h' tk' g', isL xs news v news' s.gens g' → Fr h₀ L h' m → News h₀ L h' news' → Q v { s with heap := h', toks := tk', gens := g' })
    (e : StrsAre ws xs) (F : Fr h₀ L h' m) (N : News h₀ L h' ((D, W.listOf ws.toArray k) :: news)) : Q (.ref D) { s with heap := h', toks := tk' } := hret _ _ h' tk' _ ⟨D, ws, k, rfl, rfl, e, rfl⟩ F N

theorem choices_ct (w : World) (mean : ExcName → Option Value) (mg mb : Str → Option Value) (news : List (Addr × Obj)) (pair : Str) (t t2 : Tok) (size : Int) (hw : pair.length = 2) (h1 : 4 ≤ size) (h2 : size ≤ 6) :
   Ct 1 w mean mg mb 118 (news) [.str pair t, .int size t2] (isL ((choicesF (ls pair) (size - 1).toNat).map S) news) := by
  w_top on
  w_on
  unfold Ct
  k_fill
  intro dp un gd cn cs a ccd cl outer A₀ base h₀ L m s Q E hB hF hX hN hT hK hDp hUn hret
  walk_at "my enter"

  k_steps
  rename IsRange _ _ _ _ _ _ _ _ => hr
  rename Fr _ _ _ _ => F0
  rename News _ _ _ _ => N0
  have hlp : (ls pair).length = 2 := by rw [ls_length, hw]
  have hit : Txt.item pair 0 = S ((ls pair).take 1) := item0 hw
  refine' iter_rangeS (n := (size - 1).toNat) (fun i m' news' g => g = _ ∧ Off [Str.ofString "place", Str.ofString "words"] _ m' ∧ ∃ D ws k, news' = (D, W.listOf ws.toArray k) :: _ ∧ StrsAre ws ((choicesF (ls pair) i).map S) ∧ m' (Str.ofString "words") = some (.ref D)) rfl hr (range_size (by lia  )) (range_small (by lia  ) (by lia  ) (by lia  ) (by lia  )) F0 N0 ⟨rfl, Off.refl, _, _, 0, ?e0, ?h0, rfl⟩ ?step ?done
  case e0 => exact rfl
  case h0 => rw [hit]; exact .cons _ _ .nil
  case step =>
    rintro I i₀ tv m₁ news₁ h tk g own hI hin ⟨rfl, hm, D, ws, k, rfl, hws, hmw⟩ hoff hown hIlt F N
    rw [Off.eq2 hm hmw] at F
    simp only [List.cons_append, List.nil_append] at N
    clear hr F0 N0 hm
    obtain ⟨hl1, hl2⟩ := choices_len (ls pair) hlp i₀
    have hwl : ws.length = 2 ^ i₀ := by rw [hws.len_eq, List.length_map, hl1]
    have hp2 : 2 ^ i₀ ≤ 2 ^ 5 := Nat.pow_le_pow_right (by decide) (by lia  )
    k_steps
    (k_here; (with_unfolding_all refine' AssignTwo ?c1 ?c2 ?c3 ?c4 ?_ ?c6; (case c1 => with_unfolding_all rfl); (case c2 => with_unfolding_all rfl); (case c3 => exact rfl); (case c4 => decide); (case c6 => (intro _; with_unfolding_all rfl))))
    k_steps
    rename Fr _ _ _ _ => F0
    rename News _ _ _ _ => N0
    refine' two_list (c := pair) (tc := t) rfl (by decide) rfl rfl rfl (by decide) rfl rfl (fun _ _ => rfl) F0 N0 (by k_mem) ?hsz (by lia  ) (isCat (ls pair)) ?hit1 ?helt (fun i ys => StrsAre ys (((choicesF (ls pair) i₀).take i).flatMap (stepF (ls pair)))) StrsAre.nil ?hJ ?done2
    case hsz => lia  
    case hit1 =>
      intro C h tk mC E' F N hn
      have cE := InElt.start h
      clear F0 N0
      k_steps
    case helt =>
      intro C i v j d tv h tk mC E' hv hd F N hn hm1 hm2
      have cE := InElt.start h
      obtain ⟨x, tx, rfl, hx⟩ := StrsAre.item hws i v hv
      have hxl : x.length ≤ 7 := by
        have := List.mem_of_getElem? hx
        obtain ⟨u, hu, rfl⟩ := List.mem_map.mp this
        rw [S_length, hl2 u hu]; lia  
      have hdl : (⟨#[d]⟩ : Str).length = 1 := rfl
      clear F0 N0
      k_steps
      have hd' : (ls pair).getD j 0 = d := by
        have : (ls pair)[j]? = some d := by simpa [ls] using hd
        rw [List.getD_eq_getElem?_getD, this]; rfl
      exact ⟨x, tx, _, rfl, by rw [hd']⟩
    case hJ =>
      intro i v ys zs hv hy hz hT
      exact choices_step hlp hws hv hy (by rw [hz, hw]) hT
    case done2 =>
      rintro D' h' tk' ys k' hD' F' N' hne hJn
      clear F0 N0
      k_steps
      dsimp only [TurnPost]
      refine ⟨_, _, _, _, (D', W.listOf ys.toArray k') :: _, rfl, F', news_sub N' ?sub, ?off, rfl, ?offm, D', ys, k', rfl, ?str, ?eqw⟩
      case sub => walk_at "my sub"
      case off =>
        intro p hp
        rcases List.mem_cons.mp hp with rfl | hp
        · exact fun q => absurd (List.mem_singleton.mp q) (nl' (Nat.lt_trans hIlt hD'))
        · exact fun q => hoff p (.tail _ hp) (List.mem_singleton.mp q)
      case offm => exact Off.put (Off.put (Off.put Off.refl (by simp)) (by simp)) (by simp)
      case str =>
        have e1 : (choicesF (ls pair) (i₀ + 1)).map S = (choicesF (ls pair) i₀).flatMap (stepF (ls pair)) := by
          simp only [choicesF, List.map_flatMap, List.map_map]; rfl
        rw [e1]
        have : ws.length = (choicesF (ls pair) i₀).length := by rw [hws.len_eq, List.length_map]
        rw [this, List.take_length] at hJn
        exact hJn
      case eqw => exact if_pos rfl
  case done =>
    rintro h' tk g m' news' F N ⟨rfl, hm, D, ws, k, rfl, hws, hmw⟩
    rw [frame_at hmw] at F
    clear hr F0 N0
    k_steps
    refine ret_isL (k := k) hret hws (by k_asm) (by walk_at "my news")
end
section
open PySem PySem.W PyProof.Rows
open PySem.Builtin PySem.Builtin.Str
set_option maxRecDepth 100000
set_option maxHeartbeats 8000000


local macro_rules | `(tactic| walk_at "my none 0") => `(tactic| skip)
local macro_rules | `(tactic| walk_at "exec For Name Name cons nil") => `(tactic| (k_here; (rename Fr _ _ _ _ => lF'); (with_unfolding_all refine' For_Q ?_; k_whole)))
local macro_rules | `(tactic| walk_at "exec For Name Call cons nil") => `(tactic| (k_here; (rename Fr _ _ _ _ => lF'); (with_unfolding_all refine' For_Q ?_; k_whole)))

noncomputable def chunkF (w : List Nat) (step i : Nat) : List Nat := (w.take (w.length - i * step)).drop (w.length - i * step - step)
theorem cut_left {lf word : Str} {step i : Nat} (h1 : (1 : Int) ≤ (step : Int)) (hlf : lf = S ((ls word).take (word.length - i * step))) : Txt.slice lf none (some (-(step : Int))) = S ((ls word).take (word.length - (i + 1) * step)) := by
  rw [slice_uptoNeg h1, hlf, ls_S, S_length, List.length_take, ls_length, List.take_take, Nat.succ_mul, Int.toNat_natCast, Nat.min_eq_left (Nat.sub_le word.length (i * step)), Nat.min_eq_left (Nat.sub_le _ _), Nat.sub_sub]
theorem cut_str {lf word : Str} {step i : Nat} (h1 : (1 : Int) ≤ (step : Int)) (hlf : lf = S ((ls word).take (word.length - i * step))) : Txt.slice lf (some (-(step : Int))) none = S (chunkF (ls word) step i) := by
  rw [slice_fromNeg h1, hlf, ls_S]
  unfold chunkF
  rw [S_length, List.length_take, ls_length, Int.toNat_natCast, Nat.min_eq_left (Nat.sub_le word.length (i * step))]
noncomputable def piecesF (w : List Nat) (step : Nat) : List (List Nat) := (List.range ((w.length + step - 1) / step)).map (chunkF w step)
noncomputable def isLB (xs : List Str) (news : List (Addr × Obj)) : Value → List (Addr × Obj) → Array GenState → Array GenState → Prop := fun v news' g g' => ∃ D ws k, v = .ref D ∧ news' = (D, W.listOf ws.toArray k) :: news ∧ StrsAre ws xs ∧ BareKeep g g' ∧ ∀ p ∈ news, p.1 < D
inductive PcI (O : Prop) (m1 : Str → Option Value) (X : Str) (D : Addr) (R : List (Addr × Obj)) (xs : List Str) (P : Prop) : List (Addr × Obj) → Prop
  | mk (lf : Str) (tl : Tok) (ws : List Value) (kk : Nat) (hm : O) (hleft : m1 (Str.ofString "left") = some (.str lf tl)) (hlf : lf = X) (hws : StrsAre ws xs) (hpos : P) : PcI O m1 X D R xs P ((D, W.listOf ws.toArray kk) :: R)
theorem pc_of {O P : Prop} {m1 : Str → Option Value} {X : Str} {D : Addr} {R n : List (Addr × Obj)} {xs : List Str} (h : O ∧ (∃ lf tl, m1 (Str.ofString "left") = some (.str lf tl) ∧ lf = X) ∧ (∃ ws kk, n = (D, W.listOf ws.toArray kk) :: R ∧ StrsAre ws xs) ∧ P) : PcI O m1 X D R xs P n := by
  obtain ⟨hm, ⟨lf, tl, hleft, hlf⟩, ⟨ws, kk, rfl, hws⟩, hpos⟩ := h
  exact .mk lf tl ws kk hm hleft hlf hws hpos
theorem ret_isLB {h₀ h' : Heap} {L D : Addr} {m : Str → Option Value} {news : List (Addr × Obj)} {s : Shared} {Q : Value → Shared → Prop} {xs : List Str} {ws : List Value} {k : Nat} {tk' : Nat} {gg : Array GenState}
    (hret : ∀ v news' h' tk' g', isLB xs news v news' s.gens g' → Fr h₀ L h' m → News h₀ L h' news' → Q v { s with heap := h', toks := tk', gens := g' })
    (hb : BareKeep s.gens gg) (hl : ∀ p ∈ news, p.1 < D) (e : StrsAre ws xs) (F : Fr h₀ L h' m) (N : News h₀ L h' ((D, W.listOf ws.toArray k) :: news)) : Q (.ref D) { s with heap := h', toks := tk', gens := gg } := hret _ _ h' tk' gg ⟨D, ws, k, rfl, rfl, e, hb, hl⟩ F N
theorem pieces_end {w : List Nat} {step i : Nat} (h1 : 1 ≤ step) (hn : 1 ≤ w.length) (hpos : i = 0 ∨ (i - 1) * step < w.length) (hle : w.length - i * step = 0) : piecesF w step = (List.range i).map (chunkF w step) := by
  unfold piecesF
  have : (w.length + step - 1) / step = i := by
    rcases hpos with rfl | hp
    · lia  
    · obtain ⟨j, rfl⟩ : ∃ j, i = j + 1 := ⟨i - 1, by
        rcases Nat.eq_zero_or_pos i with q | q
        · subst q; lia  
        · lia  ⟩
      have e1 : (j + 1) * step = j * step + step := Nat.succ_mul _ _
      have e2 : (j + 1 - 1) * step = j * step := rfl
      rw [e2] at hp
      rw [Nat.div_eq_iff (by lia  )]
      constructor
      · rw [e1]; lia  
      · rw [e1]; lia  
  rw [this]
theorem strsAre_snoc' {ys : List Value} {xs : List Str} (h : StrsAre ys xs) {y z : Str} {t : Tok} (e : y = z) : StrsAre (ys ++ [.str y t]) (xs ++ [z]) := e ▸ strsAre_snoc h y t
theorem off_head {D : Addr} {o : Obj} {r : List (Addr × Obj)} {bad : List Addr} (h : ∀ p ∈ (D, o) :: r, p.1 ∉ bad) : D ∉ bad := h _ (.head _)
theorem left0 (word : Str) (step : Nat) : word = S ((ls word).take (word.length - 0 * step)) := by
  rw [Nat.zero_mul, Nat.sub_zero, ← ls_length, List.take_length, S_ls]
theorem pos_absurd {step n n' : Nat} (h1 : 1 ≤ step) (hn : n = n' + 1) : ¬ (n' + 1 + 1 = 0 ∨ (n' + 1 + 1 - 1) * step < n) := by
  rintro (q | q)
  · lia  
  · have : n' + 1 ≤ (n' + 1) * step := Nat.le_mul_of_pos_right _ h1
    have e : n' + 1 + 1 - 1 = n' + 1 := rfl
    rw [e] at q; lia  
theorem led_lt {D l : Addr} {news : List (Addr × Obj)} {o : Obj} (l1 : l < D ∧ AllLt D news) : ∀ p ∈ (l, o) :: news, p.1 < D := by
  have key : ∀ {r : List (Addr × Obj)}, AllLt D r → ∀ p ∈ r, LT.lt (α := Nat) p.1 D := fun {r} => by
    induction r with
    | nil => intro _ p hp; cases hp
    | cons q r ih => intro h p hp; rcases List.mem_cons.mp hp with rfl | hp; exact h.1; exact ih h.2 p hp
  intro p hp
  rcases List.mem_cons.mp hp with rfl | hp
  · exact l1.1
  · exact key l1.2 p hp
theorem led_ne {D l C G : Addr} {news own : List (Addr × Obj)} {o : Obj} (l1 : l < D ∧ AllLt D news) (hD : D < C) (hG : G = C + 2) (hown : ∀ p ∈ own, p.1 ∈ [C + 1, C, G, l]) : ∀ p ∈ (l, o) :: (news ++ own), p.1 ≠ D := by
  have l1' : LT.lt (α := Nat) l D := l1.1
  have hD' : LT.lt (α := Nat) D C := hD
  intro p hp
  rcases List.mem_cons.mp hp with rfl | hp
  · exact nl l1'
  · rcases List.mem_append.mp hp with hp | hp
    · have key : ∀ {r : List (Addr × Obj)}, AllLt D r → ∀ p ∈ r, LT.lt (α := Nat) p.1 D := fun {r} => by
        induction r with
        | nil => intro _ p hp; cases hp
        | cons q r ih => intro h p hp; rcases List.mem_cons.mp hp with rfl | hp; exact h.1; exact ih h.2 p hp
      exact nl (key l1.2 p hp)
    · have := hown p hp
      simp only [List.mem_cons, List.not_mem_nil, or_false] at this
      rcases this with q | q | q | q <;> rw [q]
      · exact nl' (Nat.lt_succ_of_lt hD')
      · exact nl' hD'
      · rw [hG]; exact nl' (Nat.lt_succ_of_lt (Nat.lt_succ_of_lt hD'))
      · exact nl l1'

theorem row_items {vs : List Value} {q : Nat} {step : Int} (h : IntsAre vs (List.replicate q step ++ [127, 1])) : (∀ i, i < q → ∃ t, vs[i]? = some (.int step t)) ∧ ∃ t, vs[q]? = some (.int 127 t) := by
  have key : ∀ (i : Nat) (z : Int), (List.replicate q step ++ [127, 1])[i]? = some z → ∃ t, vs[i]? = some (.int z t) := fun i z hz => by
    have hl := (List.getElem?_eq_some_iff.mp hz).1
    rw [← h.length] at hl
    obtain ⟨n, t, e, hn⟩ := h.at i _ (List.getElem?_eq_getElem hl)
    rw [hz] at hn; cases hn
    exact ⟨t, by rw [List.getElem?_eq_getElem hl, e]⟩
  refine ⟨fun i hi => key i step ?_, key q 127 ?_⟩
  · rw [List.getElem?_append_left (by simpa using hi)]; simp [hi]
  · rw [List.getElem?_append_right (by simp)]; simp

theorem piecesA_ct (w : World) (mean : ExcName → Option Value) (mg mb : Str → Option Value) (news : List (Addr × Obj)) (word : Str) (t : Tok) (l : Addr) (k : Nat) (step : Nat) (ta tb tc : Tok) (hw : word.length ≤ 100) (h1 : 1 ≤ step) (h2 : step < word.length) :
   Ct 3 w mean mg mb 96 ((l, W.listOf [.int step ta, .int 0 tb, .int 1 tc].toArray k) :: news) [.str word t, .ref l] (isLB ((piecesF (ls word) step).map S) ((l, W.listOf [.int step ta, .int 0 tb, .int 1 tc].toArray k) :: news)) := by
  w_top on
  w_on
  unfold Ct
  k_fill
  intro dp un gd cn cs a ccd cl outer A₀ base h₀ L m s Q E hB hF hX hN hT hK hDp hUn hret
  walk_at "my enter"

  obtain ⟨n', hn'⟩ : ∃ n', word.length = n' + 1 := ⟨word.length - 1, by lia  ⟩
  k_steps
  rename Fr _ _ _ _ => F0
  rename News _ _ _ _ => N0
  rename (Top _ _ _ _ _ _) => T0
  refine' call_gen F0 ?X ?lim ?ho ?hcd ?room ?bind ?loc ?_ ?c1 ?c2 ?c3 ?c4
  case X => k_asm
  case lim => exact T0.nolimit
  case ho => k_is
  case hcd => k_is
  case room => first | lia   | ((try simp only [depth_deeper]); (try dsimp only [ktrTop]); lia  )
  case bind => exact BindsTo.of_eq rfl
  case loc => exact locs rfl
  case c1 => rfl
  case c2 => rfl
  case c3 => rfl
  case c4 => decide
  intro hG tkG hsz hns hgen hkeep
  have FG : Fr _ _ hG _ := ⟨F0.ns.at' fun o e => hkeep _ o e, fun b o e => hkeep b o (F0.keep b o e), F0.above⟩
  have NG : News _ _ hG _ := fun p hp => ⟨hkeep _ _ (N0 p hp).1, (N0 p hp).2⟩
  have hDlt := Heap.lt_size (N0 _ (.head _)).1
  rename (_ ∧ AllLt _ _) => l1
  have hDne := fun own (o : Obj) hown => led_ne (own := own) (o := o) l1 hDlt hsz hown
  refine' gen_loop (I := hG.objs.size) (l := l) (N := n' + 1 + 1) (step := (step : Int)) (fin := false) rfl rfl rfl T0.nolimit ?room2 FG NG hgen (Array.getElem?_push_size ..) rfl (next_is_new F0) (nl F0.ns.lt) (Nat.succ_ne_self _) (nl (Nat.lt_succ_of_lt F0.ns.lt)) (Ne.symm (NG (l, _) (by k_mem)).2.1) (fun p hp => nl (Heap.lt_size (N0 p hp).1)) ?seg (fun i m' news' => Off [Str.ofString "size", Str.ofString "left"] _ m' ∧ (∃ lf tl, m' (Str.ofString "left") = some (.str lf tl) ∧ lf = S ((ls word).take (word.length - i * step))) ∧ (∃ ws kk, news' = (_, W.listOf ws.toArray kk) :: _ ∧ StrsAre ws ((List.range i).map fun j => S (chunkF (ls word) step j))) ∧ (i = 0 ∨ (i - 1) * step < word.length)) ⟨Off.refl, ⟨word, _, rfl, left0 word step⟩, ⟨[], 0, rfl, .nil⟩, .inl rfl⟩ ?step ?nofin ?done
  case room2 => first | lia   | ((try simp only [depth_deeper]); (try dsimp only [ktrTop]); lia  )
  case seg => 
    have FC : Fr _ _ hG _ := ⟨hns, FG.keep, Nat.le_trans F0.above (Nat.le_of_lt F0.ns.lt)⟩
    have LC := isList_of (l := l) NG (by k_mem)
    have hlC := nl (Heap.lt_size (N0 (l, _) (by k_mem)).1)
    have hIC := nl' (Nat.lt_of_lt_of_eq (Nat.lt_succ_of_lt (Nat.lt_succ_self _)) hsz.symm)
    have hlI : l ≠ hG.objs.size := nl (Heap.lt_size (NG (l, _) (by k_mem)).1)
    have hI0 := next_is_new FG
    refine' seg_gen0 (fun s₀ h => GQ _ _ hG.objs.size l _ _ s₀ h ∧ h.objs.size = hG.objs.size) ⟨GQ.init FC LC, rfl⟩ ?_
    clear FC LC F0 N0 FG NG hns hgen hkeep
    rintro s₀ h tk ⟨G, hszh⟩
    refine seg_func (seg_execs_cons ?_)
    refine' segAssign (v := .none) G rfl rfl hlC hIC rfl (fun E' => ?_) fun h₁ tk₁ G₁ hs₁ _ => ?_
    · have F := G.F
      k_steps
    clear G
    refine seg_execs_cons ?_
    refine' segFor G₁ (hszh ▸ hs₁).symm (fun _ => rfl) (fun E' => ?_) fun h₂ tk₂ p G₂ hit => ?_
    · have F := G₁.F
      k_steps
    clear G₁
    refine' segTurn G₂ hit (v := .int step ta) rfl rfl rfl hlC hIC hlI hI0 rfl fun h₃ tk₃ G₃ hit₃ => ?_
    clear G₂ hit
    have ne1 : ((step : Int) == 127) = false := by rw [beq_eq_false_iff_ne]; lia  
    have ne2 : ((step : Int) == 0) = false := by rw [beq_eq_false_iff_ne]; lia  
    refine' seg_execs_cons (segIf false (fun E' => ?_) fun tk₄ => ?_)
    · have F := G₃.F
      k_steps
    refine' seg_execs_nil (seg_execs_cons (segIf false (fun E' => ?_) fun tk₅ => ?_))
    · have F := G₃.F
      k_steps
    refine' seg_execs_nil (seg_execs_cons (segYield (t := ta) G₃ hit₃ rfl rfl rfl (fun E' => ?_) fun hor s₄ G₄ hit₄ => ?_))
    · have F := G₃.F
      k_steps
    clear G₃ hit₃ hor
    refine' seg_execs_cons (segAssign (v := .int step ta) (h := s₄.heap) (tk := s₄.toks) G₄ rfl rfl hlC hIC rfl (fun E' => ?_) fun h₅ tk₅ G₅ hs₅ hitf₅ => ?_)
    · have F := G₄.F
      k_steps
    have hit₅ := hitf₅ _ hit₄
    clear G₄ hit₄ hitf₅
    refine' seg_execs_nil (seg_again rfl ?_)
    refine' segTurn G₅ hit₅ (v := .int 0 tb) rfl rfl rfl hlC hIC hlI hI0 rfl fun h₆ tk₆ G₆ hit₆ => ?_
    clear G₅ hit₅
    refine' seg_execs_cons (segIf false (fun E' => ?_) fun tk₇ => ?_)
    · have F := G₆.F
      k_steps
    refine' seg_execs_nil (seg_execs_cons (segIf true (fun E' => ?_) fun tk₈ => ?_))
    · have F := G₆.F
      k_steps
    refine' seg_execs_cons (segIf false (fun E' => ?_) fun tk₉ => ?_)
    · have F := G₆.F
      k_steps
    refine' seg_execs_nil (seg_execs_cons (seg_While fun q => ?_))
    show Seg _ _ _ _ _ s₄ _ _ _ { s₄ with heap := h₆, toks := tk₉ }
    clear hn' hs₅
    induction n' generalizing s₄ h₆ tk₉ with
    | zero =>
      refine' segWh (fun E' => ?_) fun tk' => ?_
      · have F := G₆.F
        k_steps
      refine' seg_execs_cons (segYield (t := ta) G₆ hit₆ rfl rfl rfl (fun E' => ?_) fun hor s₇ G₇ hit₇ => ?_)
      · have F := G₆.F
        k_steps
      exact absurd hor (by simp)
    | succ n' ih =>
      refine' segWh (fun E' => ?_) fun tk' => ?_
      · have F := G₆.F
        k_steps
      refine' seg_execs_cons (segYield (t := ta) G₆ hit₆ rfl rfl rfl (fun E' => ?_) fun hor s₇ G₇ hit₇ => ?_)
      · have F := G₆.F
        k_steps
      refine' seg_execs_nil (seg_again rfl ?_)
      first | exact ih s₇ s₇.heap G₇ hit₇ s₇.toks | exact ih s₇ s₇.heap s₇.toks G₇ hit₇ | (apply ih <;> assumption)
  case step =>
    intro i t' m₁ news₁ h tk gg own hi hJ
    have hJI := pc_of hJ
    clear hJ
    obtain ⟨lf, tl, ws, kk, hm, hleft, hlf, hws, hpos⟩ := hJI
    intro hoff hown hbk F N

    rw [Off.eq2 hm hleft] at F
    simp only [List.cons_append, List.nil_append] at N
    clear hm hleft F0 N0 FG NG hns hgen hkeep
    have hll : lf.length = word.length - i * step := by rw [hlf, S_length, List.length_take, ls_length]; lia  
    k_steps
    · rename (_ == Str.ofString "") = true => hc
      dsimp only [TurnPost]
      k_steps
      · rename (_ != _) = true => hd
        rw [bne, hc] at hd
        cases hd
      · have hl0 : lf.length = 0 := by rw [beq_iff_eq.mp hc]; decide +kernel
        refine ret_isLB (k := kk) (ws := ws) hret (BareKeep.push.trans hbk) (led_lt l1) ?_ (by k_asm) (by walk_at "my news")
        rw [pieces_end h1 (by rw [ls_length]; lia  ) (by rw [ls_length]; exact hpos) (by rw [ls_length]; lia  ), List.map_map]
        exact hws
    · rename (_ == Str.ofString "") = false => hc
      have hlen : ws.length ≤ 10000 := by rw [hws.len_eq, List.length_map, List.length_range]; lia  
      refine' append_led (by k_asm) (by k_asm) (hDne own _ hown) hlen ?_
      intro hA kA FA NA
      k_steps
      dsimp only [TurnPost]
      have hcn : lf.length ≠ 0 := fun q => by
        rw [beq_eq_false_iff_ne] at hc
        have e0 : ls lf = [] := List.length_eq_zero_iff.mp (by rw [ls_length]; exact q)
        exact hc (str_ext (by rw [e0]; decide +kernel))
      have hstep0 : (1 : Int) ≤ (step : Int) := by lia  
      refine ⟨_, _, _, _, (_, W.listOf (ws ++ [Value.str (Txt.slice lf (some (-(step : Int))) none) _]).toArray kA) :: (l, W.listOf [Value.int step ta, Value.int 0 tb, Value.int 1 tc].toArray k) :: news, rfl, by k_asm, by k_asm, ?off, rfl, Off.put (Off.put (Off.put Off.refl (by simp)) (by simp)) (by simp), ⟨_, _, if_pos rfl, ?left⟩, ⟨_, kA, rfl, ?str⟩, .inr ?pos⟩
      case off =>
        intro p hp
        rcases List.mem_cons.mp hp with rfl | hp
        · exact off_head hoff
        · exact hoff p (.tail _ hp)
      case left => exact cut_left hstep0 hlf
      case str =>
        rw [List.range_succ, List.map_append]
        exact strsAre_snoc' hws (cut_str hstep0 hlf)
      case pos =>
        have : i + 1 - 1 = i := rfl
        rw [this]; lia  
  case nofin =>
    rintro m₁ n₁ _ ⟨_, _, _, hpos⟩
    exact pos_absurd h1 hn' hpos
  case done =>
    rintro h tk gg m₁ n₁ _ _ _ ⟨_, _, _, hpos⟩
    exact absurd hpos (pos_absurd h1 hn')


theorem piecesB_ct (w : World) (mean : ExcName → Option Value) (mg mb : Str → Option Value) (news : List (Addr × Obj)) (word : Str) (t : Tok) (l : Addr) (k : Nat) (step q : Nat) (vs : List Value) (hq : q = word.length / step) (hvs : IntsAre vs (List.replicate q (step : Int) ++ [127, 1])) (hw : word.length ≤ 100) (h1 : 1 ≤ step) (h2 : step < word.length) :
   Ct 3 w mean mg mb 96 ((l, W.listOf vs.toArray k) :: news) [.str word t, .ref l] (isLB ((piecesF (ls word) step).map S) ((l, W.listOf vs.toArray k) :: news)) := by
  w_top on
  w_on
  unfold Ct
  k_fill
  intro dp un gd cn cs a ccd cl outer A₀ base h₀ L m s Q E hB hF hX hN hT hK hDp hUn hret
  walk_at "my enter"

  obtain ⟨hvi, tq, hvq⟩ := row_items hvs
  have hqs : q * step ≤ word.length := hq ▸ Nat.div_mul_le_self _ _
  have hqs2 : word.length < (q + 1) * step := by rw [hq, Nat.mul_comm]; exact Nat.lt_mul_div_succ _ h1
  have hq100 : q ≤ 100 := Nat.le_trans (Nat.le_mul_of_pos_right _ h1) (Nat.le_trans hqs hw)
  obtain ⟨n', hn'⟩ : ∃ n', n' = q := ⟨_, rfl⟩
  k_steps
  rename Fr _ _ _ _ => F0
  rename News _ _ _ _ => N0
  rename (Top _ _ _ _ _ _) => T0
  refine' call_gen F0 ?X ?lim ?ho ?hcd ?room ?bind ?loc ?_ ?c1 ?c2 ?c3 ?c4
  case X => k_asm
  case lim => exact T0.nolimit
  case ho => k_is
  case hcd => k_is
  case room => first | lia   | ((try simp only [depth_deeper]); (try dsimp only [ktrTop]); lia  )
  case bind => exact BindsTo.of_eq rfl
  case loc => exact locs rfl
  case c1 => rfl
  case c2 => rfl
  case c3 => rfl
  case c4 => decide
  intro hG tkG hsz hns hgen hkeep
  have FG : Fr _ _ hG _ := ⟨F0.ns.at' fun o e => hkeep _ o e, fun b o e => hkeep b o (F0.keep b o e), F0.above⟩
  have NG : News _ _ hG _ := fun p hp => ⟨hkeep _ _ (N0 p hp).1, (N0 p hp).2⟩
  have hDlt := Heap.lt_size (N0 _ (.head _)).1
  rename (_ ∧ AllLt _ _) => l1
  have hDne := fun own (o : Obj) hown => led_ne (own := own) (o := o) l1 hDlt hsz hown
  refine' gen_loop (I := hG.objs.size) (l := l) (N := n') (step := (step : Int)) (fin := true) rfl rfl rfl T0.nolimit ?room2 FG NG hgen (Array.getElem?_push_size ..) rfl (next_is_new F0) (nl F0.ns.lt) (Nat.succ_ne_self _) (nl (Nat.lt_succ_of_lt F0.ns.lt)) (Ne.symm (NG (l, _) (by k_mem)).2.1) (fun p hp => nl (Heap.lt_size (N0 p hp).1)) ?seg (fun i m' news' => Off [Str.ofString "size", Str.ofString "left"] _ m' ∧ (∃ lf tl, m' (Str.ofString "left") = some (.str lf tl) ∧ lf = S ((ls word).take (word.length - i * step))) ∧ (∃ ws kk, news' = (_, W.listOf ws.toArray kk) :: _ ∧ StrsAre ws ((List.range i).map fun j => S (chunkF (ls word) step j))) ∧ (i = 0 ∨ (i - 1) * step < word.length)) ⟨Off.refl, ⟨word, _, rfl, left0 word step⟩, ⟨[], 0, rfl, .nil⟩, .inl rfl⟩ ?step ?nofin ?done
  case room2 => first | lia   | ((try simp only [depth_deeper]); (try dsimp only [ktrTop]); lia  )
  case seg => 
    have FC : Fr _ _ hG _ := ⟨hns, FG.keep, Nat.le_trans F0.above (Nat.le_of_lt F0.ns.lt)⟩
    have LC := isList_of (l := l) NG (by k_mem)
    have hlC := nl (Heap.lt_size (N0 (l, _) (by k_mem)).1)
    have hIC := nl' (Nat.lt_of_lt_of_eq (Nat.lt_succ_of_lt (Nat.lt_succ_self _)) hsz.symm)
    have hlI : l ≠ hG.objs.size := nl (Heap.lt_size (NG (l, _) (by k_mem)).1)
    have hI0 := next_is_new FG
    refine' seg_gen0 (fun s₀ h => GQ _ _ hG.objs.size l _ _ s₀ h ∧ h.objs.size = hG.objs.size) ⟨GQ.init FC LC, rfl⟩ ?_
    clear FC LC F0 N0 FG NG hns hgen hkeep
    rintro s₀ h tk ⟨G, hszh⟩
    refine seg_func (seg_execs_cons ?_)
    refine' segAssign (v := .none) G rfl rfl hlC hIC rfl (fun E' => ?_) fun h₁ tk₁ G₁ hs₁ _ => ?_
    · have F := G.F
      k_steps
    clear G
    refine seg_execs_cons ?_
    refine' segFor G₁ (hszh ▸ hs₁).symm (fun _ => rfl) (fun E' => ?_) fun h₂ tk₂ p G₂o hito => ?_
    · have F := G₁.F
      k_steps
    clear G₁
    obtain ⟨m₂, G₂⟩ : ∃ mm, GQ _ _ hG.objs.size l _ mm s₀ h₂ := ⟨_, G₂o⟩
    obtain ⟨i, hi0, hit⟩ : ∃ i, i + n' = q ∧ h₂.IsListIter hG.objs.size l i := ⟨0, by lia  , hito⟩
    clear G₂o hito
    have ne1 : ((step : Int) == 127) = false := by rw [beq_eq_false_iff_ne]; lia  
    have ne2 : ((step : Int) == 0) = false := by rw [beq_eq_false_iff_ne]; lia  
    clear hn' hs₁ hszh
    induction n' generalizing s₀ h₂ tk₂ m₂ i with
    | zero =>
      obtain rfl : i = q := by lia  
      refine' segTurn G₂ hit hvq rfl rfl hlC hIC hlI hI0 rfl fun h₃ tk₃ G₃ hit₃ => ?_
      refine' seg_execs_cons (segIf true (fun E' => ?_) fun tk₄ => ?_)
      · have F := G₃.F
        k_steps
      refine' seg_execs_cons (segRet ?_)
      exact seg_leaf (.ok (.ret .none)) (seg_end (.ok (.ret .none)) ⟨rfl, rfl, rfl, _, _, rfl, G₃.S⟩)
    | succ n' ih =>
      obtain ⟨ta, hta⟩ := hvi i (by lia  )
      refine' segTurn G₂ hit hta rfl rfl hlC hIC hlI hI0 rfl fun h₃ tk₃ G₃ hit₃ => ?_
      refine' seg_execs_cons (segIf false (fun E' => ?_) fun tk₄ => ?_)
      · have F := G₃.F
        k_steps
      refine' seg_execs_nil (seg_execs_cons (segIf false (fun E' => ?_) fun tk₅ => ?_))
      · have F := G₃.F
        k_steps
      refine' seg_execs_nil (seg_execs_cons (segYield (t := ta) G₃ hit₃ rfl rfl rfl (fun E' => ?_) fun hor s₄ G₄ hit₄ => ?_))
      · have F := G₃.F
        k_steps
      refine' seg_execs_cons (segAssign (v := .int step ta) (h := s₄.heap) (tk := s₄.toks) G₄ rfl rfl hlC hIC rfl (fun E' => ?_) fun h₅ tk₅ G₅ hs₅ hitf₅ => ?_)
      · have F := G₄.F
        k_steps
      refine' seg_execs_nil (seg_again rfl ?_)
      first | exact ih s₄ h₅ tk₅ _ G₅ (i + 1) (by lia  ) (hitf₅ _ hit₄) | exact ih _ _ _ _ _ G₅ (by lia  ) (hitf₅ _ hit₄) | (apply ih (i := i + 1) <;> first | assumption | lia   | exact hitf₅ _ hit₄)
  case step =>
    intro i t' m₁ news₁ h tk gg own hi hJ
    have hJI := pc_of hJ
    clear hJ
    obtain ⟨lf, tl, ws, kk, hm, hleft, hlf, hws, hpos⟩ := hJI
    intro hoff hown hbk F N

    rw [Off.eq2 hm hleft] at F
    simp only [List.cons_append, List.nil_append] at N
    clear hm hleft F0 N0 FG NG hns hgen hkeep
    have hll : lf.length = word.length - i * step := by rw [hlf, S_length, List.length_take, ls_length]; lia  
    k_steps
    · rename (_ == Str.ofString "") = true => hc
      exfalso
      have hl0 : lf.length = 0 := by rw [beq_iff_eq.mp hc]; decide +kernel
      have : (i + 1) * step ≤ q * step := Nat.mul_le_mul_right _ (by lia  )
      rw [Nat.succ_mul] at this
      lia  
    · rename (_ == Str.ofString "") = false => hc
      have hlen : ws.length ≤ 10000 := by rw [hws.len_eq, List.length_map, List.length_range]; lia  
      refine' append_led (by k_asm) (by k_asm) (hDne own _ hown) hlen ?_
      intro hA kA FA NA
      k_steps
      dsimp only [TurnPost]
      have hcn : lf.length ≠ 0 := fun q => by
        rw [beq_eq_false_iff_ne] at hc
        have e0 : ls lf = [] := List.length_eq_zero_iff.mp (by rw [ls_length]; exact q)
        exact hc (str_ext (by rw [e0]; decide +kernel))
      have hstep0 : (1 : Int) ≤ (step : Int) := by lia  
      refine ⟨_, _, _, _, (_, W.listOf (ws ++ [Value.str (Txt.slice lf (some (-(step : Int))) none) _]).toArray kA) :: (l, W.listOf vs.toArray k) :: news, rfl, by k_asm, by k_asm, ?off, rfl, Off.put (Off.put (Off.put Off.refl (by simp)) (by simp)) (by simp), ⟨_, _, if_pos rfl, ?left⟩, ⟨_, kA, rfl, ?str⟩, .inr ?pos⟩
      case off =>
        intro p hp
        rcases List.mem_cons.mp hp with rfl | hp
        · exact off_head hoff
        · exact hoff p (.tail _ hp)
      case left => exact cut_left hstep0 hlf
      case str =>
        rw [List.range_succ, List.map_append]
        exact strsAre_snoc' hws (cut_str hstep0 hlf)
      case pos =>
        have : i + 1 - 1 = i := rfl
        rw [this]; lia  
  case nofin => exact fun _ _ h => absurd h (by decide)
  case done =>
    intro h tk gg m₁ news₁ hbk F N hJ
    have hJI := pc_of hJ
    clear hJ
    obtain ⟨lf, tl, ws, kk, hm, hleft, hlf, hws, hpos⟩ := hJI

    rw [frame_at hleft] at F
    rw [show m₁ = _ from frame_at (v := some (.ref _)) (hm (Str.ofString "pieces") (by decide))] at F
    clear hm hleft F0 N0 FG NG hns hgen hkeep
    have hll : lf.length = word.length - n' * step := by rw [hlf, S_length, List.length_take, ls_length]; lia  
    subst hn'
    k_steps
    · rename (_ != _) = true => hc
      have hlen : ws.length ≤ 10000 := by rw [hws.len_eq, List.length_map, List.length_range]; lia  
      have hcn : lf.length ≠ 0 := fun q' => by
        have e0 : ls lf = [] := List.length_eq_zero_iff.mp (by rw [ls_length]; exact q')
        have : lf = Str.ofString "" := str_ext (by rw [e0]; decide +kernel)
        rw [this] at hc
        revert hc; decide +kernel
      refine' append_led (by k_asm) (by k_asm) (fun p hp => hDne [] _ (fun _ h => by cases h) p (by simpa using hp)) hlen ?_
      intro hA kA FA NA
      k_steps
      have e1 : (n' + 1) * step = n' * step + step := Nat.succ_mul _ _
      refine ret_isLB (k := kA) (ws := ws ++ [Value.str lf tl]) hret (BareKeep.push.trans hbk) (led_lt l1) ?_ (by k_asm) (by walk_at "my news")
      rw [pieces_end (i := n' + 1) h1 (by rw [ls_length]; lia  ) (by rw [ls_length]; right; show n' * step < _; lia  ) (by rw [ls_length]; lia  ), List.map_map, List.range_succ, List.map_append]
      refine strsAre_snoc' hws ?_
      show lf = S (chunkF (ls word) step n')
      unfold chunkF
      have e2 : word.length - n' * step - step = 0 := by lia  
      rw [ls_length, e2, List.drop_zero, hlf]
    · rename (_ != _) = false => hc
      have hl0 : lf.length = 0 := by
        have : lf = Str.ofString "" := by simpa using hc
        rw [this]; decide +kernel
      refine ret_isLB (k := kk) (ws := ws) hret (BareKeep.push.trans hbk) (led_lt l1) ?_ (by k_asm) (by walk_at "my news")
      rw [pieces_end h1 (by rw [ls_length]; lia  ) (by rw [ls_length]; exact hpos) (by rw [ls_length]; lia  ), List.map_map]
      exact hws
end
section
open PySem PySem.W PyProof.Rows
open PySem.Builtin PySem.Builtin.Str
set_option maxRecDepth 100000
set_option maxHeartbeats 8000000



local macro_rules | `(tactic| walk_at "call ref") => `(tactic| ((with_reducible show wpAny _ _ (call (Value.ref 21) [Value.str (_ ++ _) _, Value.str _ _]) _ _ _); refine' Ct.useB (EMu _ _ _ _ _ _ _ ?m1 ?m2 ?m3 ?m4) ?B ?F ?X ?N ?T ?K ?d ?u ?R; walk_at "my uses"; (case m1 => assumption); (case m2 => omega); (case m3 => omega); (case m4 => omega); (case' R => (intro h' tk' F' N'; (try dsimp only)))))
noncomputable def hasF (x : Str) (ns : List Int) : Bool := (List.range (x.length - 1)).all fun i => !(Txt.startswith x (Txt.slice x (some (1 + (i : Int))) none) != ns.any fun x => x == 1 + (i : Int))

theorem has_ct (w : World) (mean : ExcName → Option Value) (mg mb : Str → Option Value) (news : List (Addr × Obj)) (word : Str) (t : Tok) (l : Addr) (vs : List Value) (ns : List Int) (k : Nat) (hi : IntsAre vs ns) (hd : nodot (ls word)) (h1 : 2 ≤ word.length) (hw : word.length ≤ 100) (hns : ns.length ≤ 100) :
   Ct 2 w mean mg mb 108 ((l, W.listOf vs.toArray k) :: news) [.str word t, .ref l] (isB (hasF word ns) ((l, W.listOf vs.toArray k) :: news)) := by
  w_top on
  w_on
  unfold Ct
  k_fill
  intro dp un gd cn cs a ccd cl outer A₀ base h₀ L m s Q E hB hF hX hN hT hK hDp hUn hret
  walk_at "my enter"

  k_steps
  rename IsRange _ _ _ _ _ _ _ _ => hr
  rename Fr _ _ _ _ => F0
  rename News _ _ _ _ => N0
  refine' iter_range (n := word.length - 1) (fun i m' news' g => g = _ ∧ news' = _ ∧ Off [Str.ofString "step"] _ m' ∧ ∀ j, j < i → (!(Txt.startswith word (Txt.slice word (some (1 + (j : Int))) none) != ns.any fun x => x == 1 + (j : Int))) = true) rfl hr (range_size (by lia  )) (range_small (by lia  ) (by lia  ) (by lia  ) (by lia  )) F0 N0 ⟨rfl, rfl, Off.refl, fun j hj => absurd hj (Nat.not_lt_zero _)⟩ ?step ?done
  case step =>
    rintro I i tv m₁ news₁ h tk g own hI hin ⟨rfl, rfl, hm, hall⟩ hoff hown F N
    rw [Off.eq1 hm] at F
    have hsl : (Txt.slice word (some (1 + (i : Int))) none).length = word.length - 1 - i := by rw [slice_from (by lia  ), S_length, List.length_drop, ls_length]; lia  
    have hnd : nodot (ls (Txt.slice word (some (1 + (i : Int))) none)) := by rw [slice_from (by lia  )]; exact fun q => hd (List.mem_of_mem_drop q)
    simp only [List.cons_append, List.nil_append] at N
    clear hr F0 N0 hm
    k_steps
    · rename (_ != _) = true => hc
      dsimp only [TurnPost]
      k_steps
      refine ret_isB hret ?_ (by k_asm) (by walk_at "my news")
      symm
      unfold hasF
      rw [List.all_eq_false]
      exact ⟨i, List.mem_range.mpr hin, by rw [hc]; decide⟩
    · rename (_ != _) = false => hc
      refine ⟨_, _, _, _, _, rfl, by k_asm, by k_asm, fun p hp hm => hoff p hp (List.mem_singleton.mp hm), rfl, rfl, Off.put Off.refl (.head _), fun j hj => ?_⟩
      rcases Nat.lt_succ_iff_lt_or_eq.mp hj with h | h
      · exact hall j h
      · subst h; exact bnot_of hc
  case done =>
    rintro h' tk g m' news' F N ⟨rfl, rfl, hm, hall⟩
    clear hr F0 N0
    k_steps
    refine ret_isB hret ?_ (by k_asm) (by walk_at "my news")
    symm
    unfold hasF
    rw [List.all_eq_true]
    exact fun j hj => hall j (List.mem_range.mp hj)
end
section
open PySem PySem.W PyProof.Rows
open PySem.Builtin PySem.Builtin.Str
set_option maxRecDepth 100000
set_option maxHeartbeats 8000000



local macro_rules | `(tactic| walk_at "my none 0") => `(tactic| skip)
local macro_rules | `(tactic| walk_at "call ref") => `(tactic| ((with_reducible show wpAny _ _ (call (Value.ref 108) [Value.str _ _, Value.ref _]) _ _ _); refine' Ct.useB (has_ct _ _ _ _ _ _ _ _ _ _ _ ?m1 ?m2 ?m3 ?m4 ?m5) ?B ?F ?X ?N ?T ?K ?d ?u ?R; walk_at "my uses"; (case m1 => assumption); (case m2 => assumption); (case m3 => omega); (case m4 => omega); (case m5 => omega); (case' R => (intro h' tk' F' N'; (try dsimp only)))))
noncomputable def foundF (xs : List Str) (ns : List Int) : Bool := xs.any fun x => hasF x ns

theorem found_ct (w : World) (mean : ExcName → Option Value) (mg mb : Str → Option Value) (news : List (Addr × Obj)) (lw l : Addr) (ws : List Value) (xs : List Str) (kw : Nat) (hs : StrsAre ws xs) (vs : List Value) (ns : List Int) (k : Nat) (hi : IntsAre vs ns) (hd : ∀ x ∈ xs, nodot (ls x) ∧ 2 ≤ x.length ∧ x.length ≤ 100) (hns : ns.length ≤ 100) :
   Ct 3 w mean mg mb 125 ((l, W.listOf vs.toArray k) :: (lw, W.listOf ws.toArray kw) :: news) [.ref lw, .ref l] (isB (foundF xs ns) ((l, W.listOf vs.toArray k) :: (lw, W.listOf ws.toArray kw) :: news)) := by
  w_top on
  w_on
  unfold Ct
  k_fill
  intro dp un gd cn cs a ccd cl outer A₀ base h₀ L m s Q E hB hF hX hN hT hK hDp hUn hret
  walk_at "my enter"

  k_steps
  rename Fr _ _ _ _ => F0
  rename News _ _ _ _ => N0
  refine' iter_list (fun i m' news' g => g = _ ∧ news' = _ ∧ Off [Str.ofString "word"] _ m' ∧ ∀ j x, j < i → xs[j]? = some x → hasF x ns = false) rfl F0 N0 (by k_mem) ⟨rfl, rfl, Off.refl, fun j x hj => absurd hj (Nat.not_lt_zero _)⟩ ?step ?done
  case step =>
    rintro I i v m₁ news₁ h tk g own hI hv ⟨rfl, rfl, hm, hall⟩ hoff hown F N
    rw [Off.eq1 hm] at F
    simp only [List.cons_append, List.nil_append] at N
    obtain ⟨x, tx, rfl, hx⟩ := StrsAre.item hs i v hv
    obtain ⟨hx1, hx2, hx3⟩ := hd x (List.mem_of_getElem? hx)
    clear F0 N0 hm
    k_steps
    · rename hasF _ _ = true => hc
      dsimp only [TurnPost]
      k_steps
      refine ret_isB hret ?_ (by k_asm) (by walk_at "my news")
      symm
      unfold foundF
      rw [List.any_eq_true]
      exact ⟨x, List.mem_of_getElem? hx, hc⟩
    · rename hasF _ _ = false => hc
      refine ⟨_, _, _, _, _, rfl, by k_asm, by k_asm, fun p hp hm => hoff p hp (List.mem_singleton.mp hm), rfl, rfl, Off.put Off.refl (.head _), fun j y hj hy => ?_⟩
      rcases Nat.lt_succ_iff_lt_or_eq.mp hj with h | h
      · exact hall j y h hy
      · subst h
        rw [hx] at hy
        cases hy
        exact hc
  case done =>
    rintro h' tk g m' news' F N ⟨rfl, rfl, hm, hall⟩
    clear F0 N0
    k_steps
    refine ret_isB hret ?_ (by k_asm) (by walk_at "my news")
    symm
    unfold foundF
    rw [List.any_eq_false]
    intro x hx
    obtain ⟨j, hj⟩ := List.getElem?_of_mem hx
    have hlt : j < xs.length := (List.getElem?_eq_some_iff.mp hj).1
    rw [hall j x (by rw [hs.len_eq]; exact hlt) hj]; decide
end
section
open PySem PySem.W PyProof.Rows
open PySem.Builtin PySem.Builtin.Str
set_option maxRecDepth 100000
set_option maxHeartbeats 8000000



noncomputable def wsAt (i : Int) : Nat := if i = 0 then 10 else if i = 1 then 9 else if i = 2 then 13 else 32
noncomputable def escQ (c : Nat) : List Nat := if c = 34 ∨ c = 92 then [92, c] else [c]
noncomputable def escB (c : Nat) : List Nat := [92, c]
noncomputable def writtenF (w : List Nat) (way : Int) : List Nat := if way.fmod 2 = 0 then [34] ++ w.flatMap escQ ++ [34] else w.flatMap escB ++ [wsAt ((way.fdiv 2).fmod 4)]
theorem ws_item (i : Int) (h0 : 0 ≤ i) (h4 : i < 4) : Txt.item (Str.ofString "\n\t\x0d ") i = S [wsAt i] := by
  have : i = 0 ∨ i = 1 ∨ i = 2 ∨ i = 3 := by lia  
  rcases this with h | h | h | h <;> subst h <;> decide +kernel
theorem ws_len (i : Int) (h0 : 0 ≤ i) (h4 : i < 4) : (Txt.item (Str.ofString "\n\t\x0d ") i).length = 1 := by
  rw [ws_item i h0 h4]; rfl
theorem esc_sum (word : Str) (hw : word.length ≤ 100) (f : Nat → List Nat) (hf : ∀ c, (f c).length ≤ 2) (xs : List Str) (e : xs = ((ls word).take (ls word).length).map fun c => S (f c)) : (xs.map (·.length)).sum ≤ 100000 := by
  subst e
  rw [List.map_map]
  have := sum_le ((ls word).take (ls word).length) ((fun x : Str => x.length) ∘ fun c => S (f c)) 2 (fun a _ => by simp [S_length, hf])
  rw [List.take_length, ls_length] at this
  rw [List.take_length]
  lia  
theorem escQ_le (c : Nat) : (escQ c).length ≤ 2 := by unfold escQ; split <;> simp
theorem escB_le (c : Nat) : (escB c).length ≤ 2 := by simp [escB]
theorem ls_qb : ls (Str.ofString "\"\\") = [34, 92] := by decide +kernel
theorem ls_q : ls (Str.ofString "\"") = [34] := by decide +kernel
theorem ls_b : ls (Str.ofString "\\") = [92] := by decide +kernel
theorem flat_S (l : List Nat) (f : Nat → List Nat) : ((l.take l.length).map fun c => S (f c)).flatMap ls = l.flatMap f := by
  rw [List.take_length]
  induction l with
  | nil => rfl
  | cons a l ih => simp only [List.map_cons, List.flatMap_cons, ls_S, ih]

theorem written_ct (w : World) (mean : ExcName → Option Value) (mg mb : Str → Option Value) (news : List (Addr × Obj)) (word : Str) (t t2 : Tok) (way : Int) (hw : word.length ≤ 100) :
   Ct 1 w mean mg mb 89 (news) [.str word t, .int way t2] (isS (S (writtenF (ls word) way)) news) := by
  w_top on
  w_on
  unfold Ct
  k_fill
  intro dp un gd cn cs a ccd cl outer A₀ base h₀ L m s Q E hB hF hX hN hT hK hDp hUn hret
  walk_at "my enter"

  k_steps
  · rename Fr _ _ _ _ => F0
    rename News _ _ _ _ => N0
    refine' citer_str (fun _ _ => true) (fun i ys news' g => g = _ ∧ news' = _ ∧ StrsAre ys (((ls word).take i).map fun c => S (escQ c))) rfl F0 N0 (by lia  ) ⟨rfl, rfl, StrsAre.nil⟩ (fun _ _ _ _ _ _ _ h => absurd h (by decide)) ?tests ?elt ?done
    case tests => intro C D I i d tv ys news₁ h tk g own mC _ _ _ _ _ _ _ F N _ _ E'; exact wpAny_pure ⟨rfl, _, _, rfl, F, N⟩
    case elt =>
      rintro C D I i d tv ys news₁ h tk g own mC hC hD hI hd _ ⟨rfl, rfl, hJ⟩ hoff hown F N hn hm E'
      have cE := InElt.start h
      clear F0 N0
      have hd' : (ls word)[i]? = some d := by simpa [ls] using hd
      have hs1 : ∀ y (ty : Tok), y = S (escQ d) → StrsAre (ys ++ [.str y ty]) (((ls word).take (i + 1)).map fun c => S (escQ c)) := fun y ty e => by
        rw [take_succ_map (ls word) (fun c => S (escQ c)) hd', ← e]; exact strsAre_snoc hJ y ty
      k_steps
      · rename List.isEmpty _ = true => hc
        rw [occ_char] at hc
        refine ⟨_, _, _, _, rfl, by k_asm, by k_asm, hoff, rfl, rfl, hs1 _ _ ?_⟩
        have : d ∉ ls (Str.ofString "\"\\") := by simpa using hc
        rw [ls_qb] at this
        simp only [List.mem_cons, List.not_mem_nil, or_false] at this
        unfold escQ
        rw [if_neg this]
      · rename List.isEmpty _ = false => hc
        rw [occ_char] at hc
        refine ⟨_, _, _, _, rfl, by k_asm, by k_asm, hoff, rfl, rfl, hs1 _ _ ?_⟩
        have : d ∈ ls (Str.ofString "\"\\") := by simpa using hc
        rw [ls_qb] at this
        simp only [List.mem_cons, List.not_mem_nil, or_false] at this
        unfold escQ
        rw [if_pos this]
        apply str_ext
        rw [ls_append, ls_b]; rfl
    case done =>
      have hw0 : 0 ≤ (way.fdiv 2).fmod 4 := Int.fmod_nonneg_of_pos _ (by decide)
      have hw4 : (way.fdiv 2).fmod 4 < 4 := Int.fmod_lt_of_pos _ (by decide)
      have hit := ws_len _ hw0 hw4
      rintro D h' tk g news' ys k hD F N hoff ⟨rfl, rfl, hJ⟩
      rw [← ls_length] at hJ
      have hsum := esc_sum word hw escQ escQ_le _ rfl
      clear F0 N0
      k_steps
      refine' join_led ?jN ?jm ?jh ?jt ?_; (case jN => k_asm); (case jm => k_mem); (case jh => assumption); (case jt => assumption); intro x _ _ ex hx1
      k_steps
      refine ret_isS hret ?_ (by k_asm) (by walk_at "my news")
      rename Int.fmod _ _ = (0 : Int) => hc
      rw [flat_S] at ex
      subst ex
      apply str_ext
      rw [ls_append, ls_append, ls_q, ls_S, ls_S]
      unfold writtenF
      rw [if_pos hc]
  · rename Fr _ _ _ _ => F0
    rename News _ _ _ _ => N0
    refine' citer_str (fun _ _ => true) (fun i ys news' g => g = _ ∧ news' = _ ∧ StrsAre ys (((ls word).take i).map fun c => S (escB c))) rfl F0 N0 (by lia  ) ⟨rfl, rfl, StrsAre.nil⟩ (fun _ _ _ _ _ _ _ h => absurd h (by decide)) ?tests ?elt ?done
    case tests => intro C D I i d tv ys news₁ h tk g own mC _ _ _ _ _ _ _ F N _ _ E'; exact wpAny_pure ⟨rfl, _, _, rfl, F, N⟩
    case elt =>
      rintro C D I i d tv ys news₁ h tk g own mC hC hD hI hd _ ⟨rfl, rfl, hJ⟩ hoff hown F N hn hm E'
      have cE := InElt.start h
      clear F0 N0
      have hd' : (ls word)[i]? = some d := by simpa [ls] using hd
      have hs1 : ∀ y (ty : Tok), y = S (escB d) → StrsAre (ys ++ [.str y ty]) (((ls word).take (i + 1)).map fun c => S (escB c)) := fun y ty e => by
        rw [take_succ_map (ls word) (fun c => S (escB c)) hd', ← e]; exact strsAre_snoc hJ y ty
      k_steps
      refine ⟨_, _, _, _, rfl, by k_asm, by k_asm, hoff, rfl, rfl, hs1 _ _ ?_⟩
      apply str_ext
      rw [ls_append, ls_b]; rfl
    case done =>
      have hw0 : 0 ≤ (way.fdiv 2).fmod 4 := Int.fmod_nonneg_of_pos _ (by decide)
      have hw4 : (way.fdiv 2).fmod 4 < 4 := Int.fmod_lt_of_pos _ (by decide)
      have hit := ws_len _ hw0 hw4
      rintro D h' tk g news' ys k hD F N hoff ⟨rfl, rfl, hJ⟩
      rw [← ls_length] at hJ
      have hsum := esc_sum word hw escB escB_le _ rfl
      clear F0 N0
      k_steps
      refine' join_led ?jN ?jm ?jh ?jt ?_; (case jN => k_asm); (case jm => k_mem); (case jh => assumption); (case jt => assumption); intro x _ _ ex hx1
      k_steps
      refine ret_isS hret ?_ (by k_asm) (by walk_at "my news")
      rename ¬ Int.fmod _ _ = (0 : Int) => hc
      rw [flat_S] at ex
      subst ex
      apply str_ext
      rw [ls_append, ls_S, ls_S, ws_item _ hw0 hw4]
      unfold writtenF
      rw [if_neg hc]
end
section
open PySem PySem.W PyProof.Rows
open PySem.Builtin PySem.Builtin.Str
set_option maxRecDepth 100000
set_option maxHeartbeats 8000000

section
variable {prog : Program} {w : World} {A : Around} {E : Value → Shared → Prop} {s : Shared} {Q : Value → Shared → Prop} {h₀ : Heap} {L D l : Addr} {news : List (Addr × Obj)} {k k₂ : Nat}
theorem eq_empty {ys : List Value} (N : News h₀ L s.heap news) (hD : (D, W.listOf ys.toArray k) ∈ news) (hl : (l, W.listOf ([] : List Value).toArray k₂) ∈ news) (hu : A.units < cLine) (h : Q (.bool ys.isEmpty) s) :
    wpAny (model prog w) A (compareOp .Eq (.ref D) (.ref l)) Q E s := by
  cases ys with
  | nil => exact PySem.SeqAt.eq_listAt (e := fun _ => true) (isList_of N hD) (isList_of N hl) rfl hu (fun j h1 _ => absurd h1 (Nat.not_lt_zero _)) h
  | cons y ys => exact PySem.SeqAt.eq_list_lengthsAt (isList_of N hD) (isList_of N hl) rfl hu h
theorem ne_empty {ys : List Value} {ns : List Int} (N : News h₀ L s.heap news) (hD : (D, W.listOf ys.toArray k) ∈ news) (hl : (l, W.listOf ([] : List Value).toArray k₂) ∈ news) (hu : A.units + 64 < cLine) (hi : IntsAre ys ns) (h : Q (.bool (!ys.isEmpty)) s) :
    wpAny (model prog w) A (compareOp .NotEq (.ref D) (.ref l)) Q E s := by
  refine ke_ne_ints (isList_of N hD) (isList_of N hl) hi .nil hu ?_
  have : decide (ns = []) = ys.isEmpty := by cases hi <;> simp
  rw [this]; exact h
theorem car_strs : ∀ {vs : List Value} {xs : List Str}, StrsAre vs xs → CarriedAll vs (xs.map PyData.str)
  | _, _, .nil => .nil
  | _, _, .cons _ t r => .cons (.str _ t) (car_strs r)
theorem cl_strs : ∀ ns : List Str, (∀ x ∈ ns, PyData.strOk x = true) → PyData.canLayAll0 (ns.map PyData.str) = true
  | [], _ => rfl
  | x :: r, h => by simp [PyData.canLayAll0, PyData.canLay0, cl_strs r fun y hy => h y (.tail _ hy), h x (.head _)]
theorem dp_strs : ∀ ns : List Str, PyData.depthAll (ns.map PyData.str) = 0
  | [] => rfl
  | _ :: r => by simp [PyData.depthAll, PyData.depth, dp_strs r]
theorem sh_strs (ns : List Str) (h : ∀ x ∈ ns, PyData.strOk x = true) : SeqAt.shaped (.list (ns.map PyData.str)) = true := by
  simp [SeqAt.shaped, PyData.canLay0, PyData.depth, cl_strs ns h, dp_strs]
theorem sm_strs : ∀ ns ms : List Str, PySem.Spec.sameAll (ns.map PyData.str) (ms.map PyData.str) = decide (ns = ms)
  | [], [] => by simp [PySem.Spec.sameAll]
  | [], _ :: _ => by simp [PySem.Spec.sameAll]
  | _ :: _, [] => by simp [PySem.Spec.sameAll]
  | a :: r, b :: t => by
    simp only [List.map_cons, PySem.Spec.sameAll, PySem.Spec.same, sm_strs r t]
    by_cases h : a = b <;> by_cases h' : r = t <;> simp [h, h']
theorem ss_strs (ns ms : List Str) : PySem.Spec.same (.list (ns.map PyData.str)) (.list (ms.map PyData.str)) = decide (ns = ms) := by
  simp only [PySem.Spec.same]; exact sm_strs ns ms
theorem nm_strs (ns ms : List Str) : PySem.SeqAt.noMix (.list (ns.map PyData.str)) (.list (ms.map PyData.str)) = true :=
  PySem.SeqAt.noMix_of_shape (.list .str) rfl _ _ (list_map_has fun _ => rfl) (list_map_has fun _ => rfl)
theorem eq_strs {vs ws : List Value} {xs ys : List Str} (N : News h₀ L s.heap news) (hD : (D, W.listOf vs.toArray k) ∈ news) (hl : (l, W.listOf ws.toArray k₂) ∈ news) (hx : StrsAre vs xs) (hy : StrsAre ws ys) (ox : ∀ x ∈ xs, PyData.strOk x = true) (oy : ∀ x ∈ ys, PyData.strOk x = true) (hu : A.units + 64 < cLine) (h : Q (.bool (decide (xs = ys))) s) :
    wpAny (model prog w) A (compareOp .Eq (.ref D) (.ref l)) Q E s :=
  eq_dataH_same (reads_newData (isList_of N hD) (car_strs hx)) (reads_newData (isList_of N hl) (car_strs hy)) (sh_strs _ ox) (sh_strs _ oy) hu (nm_strs _ _) (by rw [ss_strs]; exact h)
theorem ne_strs {vs ws : List Value} {xs ys : List Str} (N : News h₀ L s.heap news) (hD : (D, W.listOf vs.toArray k) ∈ news) (hl : (l, W.listOf ws.toArray k₂) ∈ news) (hx : StrsAre vs xs) (hy : StrsAre ws ys) (ox : ∀ x ∈ xs, PyData.strOk x = true) (oy : ∀ x ∈ ys, PyData.strOk x = true) (hu : A.units + 64 < cLine) (h : Q (.bool (!decide (xs = ys))) s) :
    wpAny (model prog w) A (compareOp .NotEq (.ref D) (.ref l)) Q E s :=
  ne_dataH_same (reads_newData (isList_of N hD) (car_strs hx)) (reads_newData (isList_of N hl) (car_strs hy)) (sh_strs _ ox) (sh_strs _ oy) hu (nm_strs _ _) (by rw [ss_strs]; exact h)
end
end
section
set_option linter.unusedSectionVars false

section
variable {α : Type} [BEq α] [LawfulBEq α] {β : Type} [BEq β] [LawfulBEq β]
noncomputable def chunkG (w : List α) (step i : Nat) : List α := (w.take (w.length - i * step)).drop (w.length - i * step - step)
noncomputable def piecesG (w : List α) (step : Nat) : List (List α) := (List.range ((w.length + step - 1) / step)).map (chunkG w step)
noncomputable def dueG (w : List α) (s : Nat) : Bool := w.drop s == w.take (w.length - s)
noncomputable def stepsG (w : List α) : List Nat := ((List.range (w.length - 1)).map (· + 1)).filter (dueG w)
noncomputable def ringG (w : List α) (s : Nat) : List α := w ++ w.take s
noncomputable def askedG (w : List α) (s : Nat) : List Bool :=
  [ (w.drop s).isPrefixOf w,
    (w.take (w.length - s)).isSuffixOf w,
    (w.take (w.length - s)).isPrefixOf w && (w.take (w.length - s)).isSuffixOf w && decide ((w.length - s) + (w.length - s) ≤ w.length),
    (List.range s).any (fun k => decide (1 ≤ k) && (((ringG w s).drop k).take w.length == w)),
    (piecesG w s).all (fun p => p.isSuffixOf ((piecesG w s).headD [])) ]
noncomputable def wishedG (n : Nat) (steps : List Nat) (s : Nat) : List Bool :=
  let due := steps.contains s
  [due, due, due && decide (2 * (n - s) ≤ n), steps.any (fun l => decide (l < s) && n % l == 0), due]
noncomputable def hasG (x : List α) (ns : List Nat) : Bool := (List.range (x.length - 1)).all fun i => ((x.drop (i + 1)).isPrefixOf x == ns.contains (i + 1))
noncomputable def choicesG (p : List α) : Nat → List (List α)
  | 0 => [p.take 1]
  | n + 1 => (choicesG p n).flatMap fun w => p.map fun d => w ++ [d]
noncomputable def toldG (w : List α) : Bool := (List.range (w.length - 1)).all fun i => askedG w (i + 1) == wishedG w.length (stepsG w) (i + 1)

theorem map_inj_eq {f : α → β} (hf : ∀ a b, f a = f b → a = b) (x y : List α) : (x.map f == y.map f) = (x == y) := by
  rw [Bool.eq_iff_iff, beq_iff_eq, beq_iff_eq]
  exact ⟨fun h => (List.map_inj_right (fun a b q => hf a b q)).mp h, fun h => by rw [h]⟩
theorem map_pre {f : α → β} (hf : ∀ a b, f a = f b → a = b) : ∀ x y : List α, (x.map f).isPrefixOf (y.map f) = x.isPrefixOf y
  | [], _ => by simp
  | _ :: _, [] => by simp
  | a :: x, b :: y => by
    have : (f a == f b) = (a == b) := by
      rw [Bool.eq_iff_iff, beq_iff_eq, beq_iff_eq]; exact ⟨hf a b, fun h => by rw [h]⟩
    simp only [List.map_cons, List.isPrefixOf, this, map_pre hf x y]
theorem map_suf {f : α → β} (hf : ∀ a b, f a = f b → a = b) (x y : List α) : (x.map f).isSuffixOf (y.map f) = x.isSuffixOf y := by
  unfold List.isSuffixOf
  rw [← List.map_reverse, ← List.map_reverse, map_pre hf]
theorem map_chunk {f : α → β} (w : List α) (s i : Nat) : chunkG (w.map f) s i = (chunkG w s i).map f := by
  unfold chunkG; simp [List.map_take, List.map_drop]
theorem map_pieces {f : α → β} (w : List α) (s : Nat) : piecesG (w.map f) s = (piecesG w s).map (List.map f) := by
  unfold piecesG
  rw [List.length_map, List.map_map]
  exact List.map_congr_left fun i _ => map_chunk w s i
theorem map_due {f : α → β} (hf : ∀ a b, f a = f b → a = b) (w : List α) (s : Nat) : dueG (w.map f) s = dueG w s := by
  unfold dueG; rw [← List.map_drop, ← List.map_take, List.length_map, map_inj_eq hf]
theorem map_steps {f : α → β} (hf : ∀ a b, f a = f b → a = b) (w : List α) : stepsG (w.map f) = stepsG w := by
  unfold stepsG; rw [List.length_map]; congr 1; funext s; exact map_due hf w s
theorem map_ring {f : α → β} (w : List α) (s : Nat) : ringG (w.map f) s = (ringG w s).map f := by
  unfold ringG; rw [List.map_append, List.map_take]
theorem map_headD {f : α → β} (l : List (List α)) : (l.map (List.map f)).headD [] = (l.headD []).map f := by cases l <;> rfl
theorem map_asked {f : α → β} (hf : ∀ a b, f a = f b → a = b) (w : List α) (s : Nat) : askedG (w.map f) s = askedG w s := by
  unfold askedG
  rw [map_pieces, map_headD, List.all_map, map_ring, List.length_map, ← List.map_drop, ← List.map_take, map_pre hf, map_suf hf, map_pre hf]
  have e1 : ∀ k : Nat, ((((ringG w s).map f).drop k).take w.length == w.map f) = ((((ringG w s).drop k).take w.length) == w) := fun k => by
    rw [← List.map_drop, ← List.map_take, map_inj_eq hf]
  have e2 : (fun p => List.isSuffixOf p (((piecesG w s).headD []).map f)) ∘ List.map f = fun p => List.isSuffixOf p ((piecesG w s).headD []) := by
    funext p; exact map_suf hf _ _
  simp only [e1, e2]
theorem map_told {f : α → β} (hf : ∀ a b, f a = f b → a = b) (w : List α) : toldG (w.map f) = toldG w := by
  unfold toldG; rw [map_steps hf, List.length_map]; congr 1; funext i; rw [map_asked hf]
theorem map_has {f : α → β} (hf : ∀ a b, f a = f b → a = b) (x : List α) (ns : List Nat) : hasG (x.map f) ns = hasG x ns := by
  unfold hasG; rw [List.length_map]; congr 1; funext i; rw [← List.map_drop, map_pre hf]
theorem map_choices {f : α → β} (p : List α) : ∀ n, choicesG (p.map f) n = (choicesG p n).map (List.map f)
  | 0 => by simp [choicesG]
  | n + 1 => by
    simp only [choicesG, map_choices p n, List.flatMap_map, List.map_flatMap, List.map_map]
    congr 1; funext w; congr 1; funext d; simp
end
/-- the canonical words: each letter is the place where it stood first -/
noncomputable def canon : Nat → List (List Nat)
  | 0 => [[]]
  | n + 1 => (canon n).flatMap fun u => (List.range (n + 1)).map fun d => u ++ [d]
noncomputable def isCanon (u : List Nat) : Bool := u.map (u.idxOf ·) == u
noncomputable def foundG (w : List Nat) : Bool := (choicesG [false, true] (w.length - 1)).any fun x => hasG x (stepsG w)
set_option maxRecDepth 100000
theorem check4 : ((canon 4).all fun u => !isCanon u || (toldG u && foundG u)) = true := by decide +kernel
theorem check5 : ((canon 5).all fun u => !isCanon u || (toldG u && foundG u)) = true := by decide +kernel
theorem check6 : ((canon 6).all fun u => !isCanon u || (toldG u && foundG u)) = true := by decide +kernel

theorem idxOf_snoc {w : List Nat} {c x : Nat} (h : x ∈ w) : (w ++ [c]).idxOf x = w.idxOf x := by
  rw [List.idxOf_append, if_pos h]
theorem canon_mem : ∀ (n : Nat) (w : List Nat), w.length = n → w.map (w.idxOf ·) ∈ canon n
  | 0, w, h => by cases List.length_eq_zero_iff.mp h; simp [canon]
  | n + 1, w, h => by
    have hne : w ≠ [] := fun e => by rw [e] at h; cases h
    obtain ⟨w', c, rfl⟩ : ∃ w' c, w = w' ++ [c] := ⟨w.dropLast, w.getLast hne, (List.dropLast_concat_getLast hne).symm⟩
    have hl : w'.length = n := by simpa using h
    rw [List.map_append]
    show _ ∈ (canon n).flatMap _
    rw [List.mem_flatMap]
    refine ⟨w'.map (w'.idxOf ·), canon_mem n w' hl, ?_⟩
    rw [List.mem_map]
    refine ⟨(w' ++ [c]).idxOf c, List.mem_range.mpr ?_, ?_⟩
    · have := List.idxOf_lt_length_of_mem (l := w' ++ [c]) (a := c) (by simp)
      rw [List.length_append, List.length_singleton, hl] at this; exact this
    · congr 1
      exact List.map_congr_left fun x hx => (idxOf_snoc hx).symm
theorem idxOf_inj {w : List Nat} {a b : Nat} (ha : a ∈ w) (hb : b ∈ w) (h : w.idxOf a = w.idxOf b) : a = b := by
  have e1 := List.getElem_idxOf (x := a) (xs := w) (List.idxOf_lt_length_of_mem ha)
  have e2 := List.getElem_idxOf (x := b) (xs := w) (List.idxOf_lt_length_of_mem hb)
  rw [← e1, ← e2]; congr 1
theorem idxOf_map_on {f : Nat → Nat} : ∀ (w : List Nat) (a : Nat), (∀ x ∈ w, f x = f a → x = a) → (w.map f).idxOf (f a) = w.idxOf a
  | [], a, _ => rfl
  | x :: w, a, h => by
    simp only [List.map_cons, List.idxOf_cons]
    have : (f x == f a) = (x == a) := by
      rw [Bool.eq_iff_iff, beq_iff_eq, beq_iff_eq]; exact ⟨h x (.head _), fun e => by rw [e]⟩
    rw [this, idxOf_map_on w a fun y hy => h y (.tail _ hy)]
theorem canon_is (w : List Nat) : isCanon (w.map (w.idxOf ·)) = true := by
  unfold isCanon
  rw [beq_iff_eq, List.map_map]
  refine List.map_congr_left fun a ha => ?_
  show (w.map (w.idxOf ·)).idxOf (w.idxOf a) = w.idxOf a
  exact idxOf_map_on (f := (w.idxOf ·)) w a fun x hx e => idxOf_inj hx ha e
theorem law1_plain (w : List Nat) (h : w.length = 4 ∨ w.length = 5 ∨ w.length = 6) : toldG w = true ∧ foundG w = true := by
  have key : ((canon w.length).all fun u => !isCanon u || (toldG u && foundG u)) = true := by
    rcases h with h | h | h <;> rw [h]
    · exact check4
    · exact check5
    · exact check6
  have hu := List.all_eq_true.mp key _ (canon_mem _ w rfl)
  rw [canon_is, Bool.not_true, Bool.false_or, Bool.and_eq_true] at hu
  have e1 : toldG w = toldG w.attach := by
    have := map_told (f := fun a : {x // x ∈ w} => a.val) (fun a b h => Subtype.ext h) w.attach
    rw [List.attach_map_subtype_val] at this; exact this
  have inj : ∀ a b : {x // x ∈ w}, w.idxOf a.val = w.idxOf b.val → a = b := fun a b e => Subtype.ext (idxOf_inj a.2 b.2 e)
  have m : w.map (w.idxOf ·) = w.attach.map (fun a => w.idxOf a.val) := by
    have := List.map_map (l := w.attach) (f := fun a : {x // x ∈ w} => a.val) (g := (w.idxOf ·))
    rw [List.attach_map_subtype_val] at this
    exact this
  have e2 : toldG (w.map (w.idxOf ·)) = toldG w.attach := by rw [m]; exact map_told inj w.attach
  have s1 : stepsG w = stepsG w.attach := by
    have := map_steps (f := fun a : {x // x ∈ w} => a.val) (fun a b h => Subtype.ext h) w.attach
    rw [List.attach_map_subtype_val] at this; exact this
  have s2 : stepsG (w.map (w.idxOf ·)) = stepsG w.attach := by rw [m]; exact map_steps inj w.attach
  refine ⟨e1.trans (e2.symm.trans hu.1), ?_⟩
  have := hu.2
  unfold foundG at this ⊢
  rw [s2, List.length_map] at this
  rw [s1]; exact this
/-- the words of two unlike signs, told by theirs -/
theorem found_pair {a b : Nat} (hab : a ≠ b) (w : List Nat) (h : w.length = 4 ∨ w.length = 5 ∨ w.length = 6) : ((choicesG [a, b] (w.length - 1)).any fun x => hasG x (stepsG w)) = true := by
  have := (law1_plain w h).2
  have inj : ∀ x y : Bool, (if x then b else a) = (if y then b else a) → x = y := by
    intro x y e
    cases x <;> cases y <;> simp at e ⊢
    · exact hab e
    · exact hab e.symm
  have e := map_choices (f := fun x : Bool => if x then b else a) [false, true] (w.length - 1)
  have e' : [a, b] = [false, true].map (fun x : Bool => if x then b else a) := rfl
  rw [e', e, List.any_map]
  unfold foundG at this
  have e2 : ((fun x => hasG x (stepsG w)) ∘ List.map (fun x : Bool => if x then b else a)) = fun x => hasG x (stepsG w) := by
    funext x
    exact map_has inj x _
  rw [e2]; exact this
end
section
open PySem PySem.W PyProof.Rows
open PySem.Builtin PySem.Builtin.Str
set_option maxRecDepth 100000
set_option maxHeartbeats 8000000

theorem item_first {x : Str} (h : 1 ≤ x.length) : Txt.item x 0 = S ((ls x).take 1) := by
  rw [item_meets ⟨Int.le_refl _, by lia  ⟩]
  apply str_ext
  rw [ls_S]
  show [x.cps.getD 0 0] = _
  obtain ⟨⟨l⟩⟩ := x
  match l, h with
  | a :: l, _ => rfl
theorem item_last {x : Str} (h : 1 ≤ x.length) : Txt.item x (-1) = S ((ls x).drop (x.length - 1)) := by
  have hl : (ls x).length = x.length := ls_length x
  have hlt : x.length - 1 < (ls x).length := by lia  
  have e : x.cps[((-1 : Int) + x.length).toNat]? = some ((ls x)[x.length - 1]) := by
    have : ((-1 : Int) + x.length).toNat = x.length - 1 := by lia  
    rw [this, ← Array.getElem?_toList]
    exact List.getElem?_eq_getElem hlt
  unfold Txt.item Txt.charAt
  rw [StrLaws.at_neg (by decide) (by lia  ) e]
  apply str_ext
  show [_] = _
  rw [List.drop_eq_getElem_cons hlt, List.drop_eq_nil_of_le (by lia  )]
  rfl
theorem chunk_eq (w : List Nat) (s i : Nat) : chunkF w s i = chunkG w s i := rfl
theorem pieces_eq (w : List Nat) (s : Nat) : piecesF w s = piecesG w s := rfl
theorem choices_eq (p : List Nat) : ∀ n, choicesF p n = choicesG p n
  | 0 => rfl
  | n + 1 => by simp only [choicesF, choicesG, choices_eq p n]
noncomputable def isF (bs : List Bool) (news : List (Addr × Obj)) : Value → List (Addr × Obj) → Array GenState → Array GenState → Prop := fun v news' g g' => ∃ D k, v = .ref D ∧ news' = (D, W.listOf (bs.map Value.bool).toArray k) :: news ∧ BareKeep g g' ∧ ∀ p ∈ news, p.1 < D
theorem ret_isF {h₀ h' : Heap} {L D : Addr} {m : Str → Option Value} {news : List (Addr × Obj)} {s : Shared} {Q : Value → Shared → Prop} {bs : List Bool} {ws : List Value} {k : Nat} {tk' : Nat} {gg : Array GenState}
    (hret : ∀ v news' h' tk' g', isF bs news v news' s.gens g' → Fr h₀ L h' m → News h₀ L h' news' → Q v { s with heap := h', toks := tk', gens := g' })
    (hb : BareKeep s.gens gg) (hl : ∀ p ∈ news, p.1 < D) (e : ws = bs.map Value.bool) (F : Fr h₀ L h' m) (N : News h₀ L h' ((D, W.listOf ws.toArray k) :: news)) : Q (.ref D) { s with heap := h', toks := tk', gens := gg } := hret _ _ h' tk' gg ⟨D, k, rfl, by rw [e], hb, hl⟩ F N
theorem suf_drop (r : List Nat) (n : Nat) : (r.drop n).isSuffixOf r = true := by
  rw [List.isSuffixOf_iff_suffix]; exact List.drop_suffix n r
theorem pre_take (r : List Nat) (n : Nat) : (r.take n).isPrefixOf r = true := by
  rw [List.isPrefixOf_iff_prefix]; exact List.take_prefix n r
/-- the word in its ring, between the ends -/
theorem ring_find {word : Str} {step : Nat} (h1 : 1 ≤ step) (h2 : step < word.length) :
    decide (0 ≤ find4 (S (ringG (ls word) step)) word (1 : Nat) ((((word.length + step : Nat)) : Int) - (1 : Nat))) = (List.range step).any (fun k => decide (1 ≤ k) && (((ringG (ls word) step).drop k).take (ls word).length == ls word)) := by
  have hl : (ringG (ls word) step).length = word.length + step := by
    unfold ringG; rw [List.length_append, List.length_take, ls_length]; lia  
  have e : (((word.length + step : Nat)) : Int) - (1 : Nat) = ((word.length + step - 1 : Nat) : Int) := by lia  
  have hS : (S (ringG (ls word) step)).length = word.length + step := by rw [S_length]; exact hl
  rw [e, Bool.eq_iff_iff, decide_eq_true_eq, find4_nonneg, fromIndex_nat, fromIndex_nat, List.any_eq_true, hS]
  constructor
  · rintro ⟨k, h3, h4, h5⟩
    refine ⟨k, List.mem_range.mpr (by lia  ), ?_⟩
    rw [StrLaws.subAt_eq, ← ls_length word] at h5
    rw [Bool.and_eq_true, decide_eq_true_eq]
    exact ⟨h3, h5⟩
  · rintro ⟨k, h3, h4⟩
    rw [Bool.and_eq_true, decide_eq_true_eq] at h4
    have := List.mem_range.mp h3
    refine ⟨k, h4.1, by lia  , ?_⟩
    rw [StrLaws.subAt_eq, ← ls_length word]
    exact h4.2
theorem all_map_S (l : List (List Nat)) (p : Str → Bool) : (l.map S).all p = l.all fun c => p (S c) := by rw [List.all_map]; rfl
theorem asked_eq {word : Str} {step : Nat} (h1 : 1 ≤ step) (h2 : step < word.length) {x0 : Str} {xr : List Str} (hx : (piecesF (ls word) step).map S = x0 :: xr) {b : Bool} (hb : b = (x0 :: xr).all fun x => Txt.endswith x0 x) :
    [Value.bool (Txt.startswith word (Txt.slice word (some (step : Int)) none)),
     .bool (Txt.endswith word (Txt.slice word none (some ((word.length : Int) - step)))),
     .bool (Txt.startswith word (Txt.slice word none (some ((word.length : Int) - step))) && Txt.endswith word (Txt.slice word none (some ((word.length : Int) - step))) && decide ((Txt.slice word none (some ((word.length : Int) - step))).length + (Txt.slice word none (some ((word.length : Int) - step))).length ≤ word.length)),
     .bool (Txt.startswith (word ++ Txt.slice word none (some (step : Int))) (Txt.item (word ++ Txt.slice word none (some (step : Int))) 0) && Txt.endswith (word ++ Txt.slice word none (some (step : Int))) (Txt.item (word ++ Txt.slice word none (some (step : Int))) (-1)) && decide ((Txt.item (word ++ Txt.slice word none (some (step : Int))) 0).length + (Txt.item (word ++ Txt.slice word none (some (step : Int))) (-1)).length ≤ (word ++ Txt.slice word none (some (step : Int))).length) && decide (0 ≤ find4 (word ++ Txt.slice word none (some (step : Int))) word (Txt.item (word ++ Txt.slice word none (some (step : Int))) 0).length (((word ++ Txt.slice word none (some (step : Int))).length : Int) - (Txt.item (word ++ Txt.slice word none (some (step : Int))) (-1)).length))),
     .bool b] = (askedG (ls word) step).map Value.bool := by
  have eA : Txt.slice word (some (step : Int)) none = S ((ls word).drop step) := by rw [slice_from (by lia  )]; rfl
  have eB : Txt.slice word none (some ((word.length : Int) - step)) = S ((ls word).take (word.length - step)) := by
    rw [slice_upto (by lia  )]; congr 2; lia  
  have eC : Txt.slice word none (some (step : Int)) = S ((ls word).take step) := by rw [slice_upto (by lia  )]; rfl
  have eR : word ++ Txt.slice word none (some (step : Int)) = S (ringG (ls word) step) := by
    rw [eC]; unfold ringG; rw [← S_append, S_ls]
  have hl : (ringG (ls word) step).length = word.length + step := by
    unfold ringG; rw [List.length_append, List.length_take, ls_length]; lia  
  have eI : Txt.item (S (ringG (ls word) step)) 0 = S ((ringG (ls word) step).take 1) := item_first (by rw [S_length]; lia  )
  have eJ : Txt.item (S (ringG (ls word) step)) (-1) = S ((ringG (ls word) step).drop (word.length + step - 1)) := by
    rw [item_last (by rw [S_length]; lia  ), S_length, hl]
  have lI : (S ((ringG (ls word) step).take 1)).length = 1 := by rw [S_length, List.length_take, hl]; lia  
  have lJ : (S ((ringG (ls word) step).drop (word.length + step - 1))).length = 1 := by rw [S_length, List.length_drop, hl]; lia  
  have lB : (S ((ls word).take (word.length - step))).length = word.length - step := by rw [S_length, List.length_take, ls_length]; lia  
  have b5 : b = (piecesG (ls word) step).all (fun p => p.isSuffixOf ((piecesG (ls word) step).headD [])) := by
    rw [hb, ← hx, ← pieces_eq]
    cases hp : piecesF (ls word) step with
    | nil => rfl
    | cons c cs =>
      rw [hp] at hx
      have e0 : x0 = S c := (List.cons.inj hx).1.symm
      rw [all_map_S, e0]
      simp only [ends_ls, ls_S, List.headD_cons]
  have hd : decide (2 ≤ (S (ringG (ls word) step)).length) = true := by rw [S_length, hl, decide_eq_true_eq]; lia  
  have four : (Txt.startswith (S (ringG (ls word) step)) (S ((ringG (ls word) step).take 1)) && Txt.endswith (S (ringG (ls word) step)) (S ((ringG (ls word) step).drop (word.length + step - 1))) && decide (1 + 1 ≤ (S (ringG (ls word) step)).length) && decide (0 ≤ find4 (S (ringG (ls word) step)) word (1 : Nat) (((S (ringG (ls word) step)).length : Int) - (1 : Nat)))) = (List.range step).any (fun k => decide (1 ≤ k) && (((ringG (ls word) step).drop k).take (ls word).length == ls word)) := by
    rw [starts_ls, ends_ls, ls_S, ls_S, ls_S, pre_take, suf_drop, hd, Bool.true_and, Bool.true_and, Bool.true_and, S_length, hl, ring_find h1 h2]
  rw [eA, eR, eB, eI, eJ, lI, lJ, lB, four, b5]
  unfold askedG
  simp only [List.map_cons, List.map_nil, starts_ls, ends_ls, ls_S, ls_length]
end
section
open PySem PySem.W PyProof.Rows
open PySem.Builtin PySem.Builtin.Str
set_option maxRecDepth 100000
set_option maxHeartbeats 8000000

noncomputable def Stop (p : Prop) : Prop := p
theorem stop_here {p : Prop} (h : Stop p) : p := h
inductive RowMid (h₀ : Heap) (L : Addr) (m : Str → Option Value) (news : List (Addr × Obj)) (x : Str) (PP : List Value → Prop) (s s' : Shared) : Prop
  | mk (h' : Heap) (tk : Nat) (l : Addr) (vs : List Value) (k : Nat) (e : s' = { s with heap := h', toks := tk }) (F : Fr h₀ L h' (fun y => if y = x then some (.ref l) else m y)) (N : News h₀ L h' ((l, W.listOf vs.toArray k) :: news)) (hl : ∀ p ∈ news, p.1 < l) (hp : PP vs) : RowMid h₀ L m news x PP s s'
section
variable {prog : Program} {w : World} {A : Around} {s : Shared} {env : Env} {h₀ : Heap} {E : Value → Shared → Prop}
theorem cut_row {st : Stmt} {rest : List Stmt} {Q : Flow → Shared → Prop} {L l₀ : Addr} {o₀ : Obj} {m : Str → Option Value} {news : List (Addr × Obj)} (x : Str) (PP : List Value → Prop)
    (_F : Fr h₀ L s.heap m) (_N : News h₀ L s.heap ((l₀, o₀) :: news))
    (h1 : wpAny (model prog w) A (exec st env) (fun f s' => f = .next ∧ RowMid h₀ L m news x PP s s') E s)
    (h2 : ∀ h' tk l vs k, Fr h₀ L h' (fun y => if y = x then some (.ref l) else m y) → News h₀ L h' ((l, W.listOf vs.toArray k) :: news) → (∀ p ∈ news, p.1 < l) → PP vs →
      wpAny (model prog w) A (execs rest env) Q E { s with heap := h', toks := tk }) : wpAny (model prog w) A (execs (st :: rest) env) Q E s := by
  refine wpAny_execs_cons (wpAny_mono h1 (fun f s' h => ?_) fun _ _ e => e)
  obtain ⟨rfl, h', tk, l, vs, k, rfl, F, N, hl, hp⟩ := h
  exact h2 h' tk l vs k F N hl hp
end
end
section
local macro_rules | `(tactic| k_all) => `(tactic| first | exact all_ne (by assumption) (by omega) | exact all_ne (allLt_mem (by assumption)) (by omega))
local macro_rules | `(tactic| walk_at "LeaveK") => `(tactic| (refine stop_here ?_))
local macro_rules | `(tactic| walk_at "my leave") => `(tactic| (unfold Stop; (try dsimp only); (refine' leaveK_ ?k1 ?k2 ?_; (case k1 => k_asm); (case k2 => k_asm)); intro kF kN; (try dsimp only); (try (refine handed_on rfl ?_; try dsimp only))))
local macro_rules | `(tactic| walk_at "newList") => `(tactic| (k_here; k_dflt (refine' newList_K ?k1 ?k2 ?_; (case k1 => k_asm); (case k2 => k_asm); k_whole); intro l' h' F' N' l1; (try k_lt l1)))
section
local macro_rules | `(tactic| walk_at "my sub1") => `(tactic| (intro p hp; (repeat (refine List.Mem.tail _ ?_)); first | exact hp | exact List.mem_append_left _ hp))
local macro_rules | `(tactic| walk_at "compareOp Eq ref ref") => `(tactic| (k_dflt (refine' eq_empty ?eN ?eD ?el ?eu ?_; (case eN => k_asm); (case eD => exact .tail _ (.head _)); (case el => exact .head _); (case eu => first | omega | ((try simp only [Around.deeper_units]); (try dsimp only [ktrTop]); omega)))))
section
open PySem PySem.W PyProof.Rows
open PySem.Builtin PySem.Builtin.Str
set_option maxRecDepth 100000
set_option maxHeartbeats 8000000




local macro_rules | `(tactic| walk_at "call ref") => `(tactic| (refine stop_here ?_))
local macro_rules | `(tactic| walk_at "subscriptTail Name Constant ref int") => `(tactic| (with_unfolding_all refine' item_litK ?k1 ?k2 ?k3 ?k4 ?_ ?k6; (case k1 => is_list); (case k2 => decide); (case k3 => decide); (case k4 => rfl); (case k6 => with_unfolding_all rfl); k_whole))
local macro_rules | `(tactic| walk_at "execs cons") => `(tactic| ((with_reducible show wpAny _ _ (execs (Stmt.If _ _ _ _ :: _) _) _ _ _); refine stop_here ?_))
local macro_rules | `(tactic| walk_at "binaryOp Add ref ref") => `(tactic| (refine stop_here ?_))

theorem Ct.useL {k : Nat} {w : World} {mean : ExcName → Option Value} {mg mb : Str → Option Value} {f : Addr} {news : List (Addr × Obj)} {vs : List Value} {xs : List Str} {n0 : List (Addr × Obj)} (C : Ct k w mean mg mb f news vs (isLB xs n0)) {dp un : Nat} {gd : Option (List Code)} {cn : Str} {cs : Scope} {a : Addr} {ccd : Value} {cl : List (Str × Addr)} {outer : List Env} {A₀ : Around} {base h₀ : Heap} {L : Addr} {m : Str → Option Value} {s : Shared} {Q E : Value → Shared → Prop}
    (B : Below A₀ base outer h₀) (F : Fr h₀ L s.heap m) (X : (Mine.hd.heap_39 w.params).In h₀) (N : News h₀ L s.heap news) (T : Top topProg LLo mean mg mb h₀) (hk : cs.kind = .function) (hd : dp + k < recursionLimit) (hu : un + 8 * k < cLine)
    (ret : ∀ D ws kl h' tk' g', StrsAre ws xs → BareKeep s.gens g' → (∀ p ∈ n0, p.1 < D) → Fr h₀ L h' m → News h₀ L h' ((D, W.listOf ws.toArray kl) :: n0) → Q (.ref D) { s with heap := h', toks := tk', gens := g' }) :
    wpAny (model PySem.Challenge.rw_re0036_01.row.prog w) (ktrTop dp un gd cn cs L a ccd cl outer) (call (.ref f) vs) Q E s :=
  C.use B F X N T hk hd hu fun v n h' tk' g' hp F' N' => by
    obtain ⟨D, ws, kl, rfl, rfl, hS, hB, hl⟩ := hp
    exact ret D ws kl h' tk' g' hS hB hl F' N'
theorem strsAre_cons {vs : List Value} {xs : List Str} (h : StrsAre vs xs) (hne : xs ≠ []) : ∃ x0 t0 xr wr, xs = x0 :: xr ∧ vs = .str x0 t0 :: wr ∧ StrsAre wr xr := by
  cases h with
  | nil => exact absurd rfl hne
  | cons x t r => exact ⟨x, t, _, _, rfl, rfl, r⟩
theorem pieces_mem {word : Str} {step : Nat} (hd : nodot (ls word)) (h1 : 1 ≤ step) (hw : word.length ≤ 100) {x : Str} (hx : x ∈ (piecesF (ls word) step).map S) : 1 ≤ x.length ∧ x.length ≤ 100 ∧ nodot (ls x) := by
  obtain ⟨c, hc, rfl⟩ := List.mem_map.mp hx
  obtain ⟨i, hi, rfl⟩ := List.mem_map.mp hc
  rw [List.mem_range, Nat.lt_div_iff_mul_lt h1, ls_length] at hi
  refine ⟨?_, ?_, fun q => hd ?_⟩
  · rw [S_length]; unfold chunkF; rw [List.length_drop, List.length_take, ls_length]; lia  
  · rw [S_length]; unfold chunkF; rw [List.length_drop, List.length_take, ls_length]; lia  
  · rw [ls_S] at q
    exact List.mem_of_mem_take (List.mem_of_mem_drop q)
theorem pieces_le {word : Str} {step : Nat} (h1 : 1 ≤ step) (h2 : 1 ≤ word.length) : (piecesF (ls word) step).length ≤ word.length := by
  simp only [piecesF, List.length_map, List.length_range, ls_length]
  rw [Nat.div_le_iff_le_mul_add_pred h1]
  have : word.length ≤ step * word.length := Nat.le_mul_of_pos_left _ h1
  lia  
theorem pieces_ne {word : Str} {step : Nat} (h1 : 1 ≤ step) (h2 : 1 ≤ word.length) : (piecesF (ls word) step).map S ≠ [] := by
  intro q
  have := congrArg List.length q
  simp only [piecesF, List.length_map, List.length_range, List.length_nil, ls_length] at this
  have := Nat.div_eq_zero_iff.mp this
  lia  
theorem rep_flat {α : Type} (n : Nat) (v : α) : (List.replicate n [v]).flatten = List.replicate n v := by
  induction n with
  | zero => rfl
  | succ n ih => rw [List.replicate_succ, List.flatten_cons, ih]; rfl
theorem rep_ints (n : Nat) (v : Int) (t : Tok) : IntsAre (List.replicate n (.int v t)) (List.replicate n v) := by
  induction n with
  | zero => exact .nil
  | succ n ih => rw [List.replicate_succ, List.replicate_succ]; exact .cons _ _ ih
theorem frame_skip {m : Str → Option Value} {a : Str} {v w : Option Value} : (fun y => if y = a then v else (fun y => if y = a then w else m y) y) = fun y => if y = a then v else m y := by
  funext y
  by_cases e : y = a
  · rw [if_pos e, if_pos e]
  · rw [if_neg e, if_neg e]; exact if_neg e
theorem lt_of {D l : Addr} {news : List (Addr × Obj)} {o : Obj} (l1 : l < D ∧ AllLt D news) : ∀ p ∈ (l, o) :: news, p.1 < D := led_lt l1
theorem led_head {h₀ h : Heap} {L : Addr} {a : Addr × Obj} {r news : List (Addr × Obj)} (N : News h₀ L h (a :: r)) (hs : ∀ p ∈ news, p ∈ r) : News h₀ L h (a :: news) := fun p hp => by
  rcases List.mem_cons.mp hp with rfl | hp
  · exact N _ (.head _)
  · exact N p (.tail _ (hs p hp))
/-- what the pieces' call may rely on of its row -/
noncomputable def RowOk (word : Str) (step : Nat) (vs : List Value) : Prop := ∀ (w : World) (mean : ExcName → Option Value) (mg mb : Str → Option Value) (news : List (Addr × Obj)) (t : Tok) (l : Addr) (k : Nat),
  Ct 3 w mean mg mb 96 ((l, W.listOf vs.toArray k) :: news) [.str word t, .ref l] (isLB ((piecesF (ls word) step).map S) ((l, W.listOf vs.toArray k) :: news))

theorem asked_ct (w : World) (mean : ExcName → Option Value) (mg mb : Str → Option Value) (news : List (Addr × Obj)) (word : Str) (t t2 : Tok) (step : Nat) (e : Bool) (hd : nodot (ls word)) (hw : word.length ≤ 100) (h1 : 1 ≤ step) (h2 : step < word.length) :
   Ct 5 w mean mg mb 101 (news) [.str word t, .int step t2, .bool e] (isF (askedG (ls word) step) news) := by
  w_top on
  w_on
  unfold Ct
  k_fill
  intro dp un gd cn cs a ccd cl outer A₀ base h₀ L m s Q E hB hF hX hN hT hK hDp hUn hret
  walk_at "my enter"
  rename Fr _ _ _ _ => FF
  have FN := reframe (m' := fun y => if y = Str.ofString "ended" then some (.bool e) else (if y = Str.ofString "step" then some (.int step t2) else (if y = Str.ofString "word" then some (.str word t) else (none)))) FF (by with_unfolding_all rfl)
  clear FF hF hN

  have hw1 : word.length ≤ 1000 := by lia  
  have hw2 : 1 ≤ word.length := by lia  
  have hw3 : word.length ≤ 300 := by lia  
  k_steps
  unfold Stop
  rename Fr _ _ _ _ => F0
  rename News _ _ _ _ => N0
  rename (_ ∧ AllLt _ _) => l1
  refine' cut_row (Str.ofString "row") (RowOk word step) F0 N0 ?rows ?rest
  case rows =>
    cases e
    · skip

      k_steps
      exact ⟨_, _, _, _, _, rfl, reframe (by k_asm) (frame_at rfl), by k_asm, lt_of l1, fun w mean mg mb news t l k => piecesA_ct w mean mg mb news word t l k step _ _ _ hw h1 h2⟩

    · skip

      k_steps
      have hq : (word.length : Int).fdiv step = ((word.length / step : Nat) : Int) := by rw [Int.fdiv_eq_ediv_of_nonneg _ (by lia  )]; exact Int.natCast_ediv ..
      have hq1 : word.length / step ≤ word.length := Nat.div_le_self _ _
      rw [hq]
      obtain ⟨q, hqd⟩ : ∃ q, q = word.length / step := ⟨_, rfl⟩
      rw [← hqd] at hq1 ⊢
      clear hq
      refine' KMa.mul (ws := List.replicate q (.int step t2)) ?kF ?kN ?kL ?klo ?khi ?ksz ?ke ?_
      case kF => k_asm
      case kN => k_asm
      case kL => exact isList_of (by k_asm) (by k_mem)
      case klo => lia  
      case khi => lia  
      case ksz => rw [Int.toNat_natCast]; simp; lia  
      case ke => rw [Int.toNat_natCast, rep_flat]
      intro D1 h1' F' N' l1'
      (try k_lt l1')
      k_steps
      unfold Stop
      dsimp only
      refine' kmk_add_ints (vs := List.replicate q (.int step t2)) (ns := List.replicate q (step : Int)) (ms := [127, 1]) ?kF ?kN ?kL ?kL2 ?kI ?kI2 ?_ ?kz
      case kF => k_asm
      case kN => k_asm
      case kL => exact isList_of (by k_asm) (by k_mem)
      case kL2 => exact isList_of (k := 0) (by k_asm) (by k_mem)
      case kI => exact rep_ints _ _ _
      case kI2 => exact .cons _ _ (.cons _ _ .nil)
      case kz => simp only [List.length_replicate, List.length_cons, List.length_nil]; unfold sizeLine; lia  
      intro D2 us h2' F' N' l1' hus
      (try k_lt l1')
      k_steps
      exact ⟨_, _, _, us, 0, rfl, by k_asm, news_sub (by k_asm) (by walk_at "my sub"), led_lt ⟨l1'.2.2.2.2.1, l1'.2.2.2.2.2⟩, fun w mean mg mb news t l k => piecesB_ct w mean mg mb news word t l k step _ us hqd hus hw h1 h2⟩

  case rest =>
    intro hq tkq lq vs kq FQ NQ hlq hPP
    clear F0 N0
    have hlq' := hlq
    k_lt hlq'

    have hA1 : (Txt.slice word (some (step : Int)) none).length = word.length - step := by rw [slice_from (by lia  ), S_length, List.length_drop, ls_length]; rfl
    have hA2 : nodot (ls (Txt.slice word (some (step : Int)) none)) := by rw [slice_from (by lia  )]; exact fun q => hd (List.mem_of_mem_drop q)
    have hB1 : (Txt.slice word none (some ((word.length : Int) - step))).length = word.length - step := by rw [slice_upto (by lia  ), S_length, List.length_take, ls_length]; lia  
    have hB2 : nodot (ls (Txt.slice word none (some ((word.length : Int) - step)))) := by rw [slice_upto (by lia  )]; exact fun q => hd (List.mem_of_mem_take q)
    have hC1 : (Txt.slice word none (some (step : Int))).length = step := by rw [slice_upto (by lia  ), S_length, List.length_take, ls_length]; lia  
    have hC2 : nodot (ls (Txt.slice word none (some (step : Int)))) := by rw [slice_upto (by lia  )]; exact fun q => hd (List.mem_of_mem_take q)
    have hR1 : (word ++ Txt.slice word none (some (step : Int))).length = word.length + step := by rw [Str.length_append, hC1]
    have hRd : nodot (ls (word ++ Txt.slice word none (some (step : Int)))) := by rw [ls_append]; exact fun q => (List.mem_append.mp q).elim hd hC2
    have hI1 : (Txt.item (word ++ Txt.slice word none (some (step : Int))) 0).length = 1 := by rw [item_meets ⟨Int.le_refl _, by lia  ⟩]; rfl
    have hJ1 : (Txt.item (word ++ Txt.slice word none (some (step : Int))) (-1)).length = 1 := by rw [item_last (by lia  ), S_length, List.length_drop, ls_length, hR1]; lia  
    have hI2 : nodot (ls (Txt.item (word ++ Txt.slice word none (some (step : Int))) 0)) := by rw [item_first (by lia  )]; exact fun q => hRd (List.mem_of_mem_take q)
    have hJ2 : nodot (ls (Txt.item (word ++ Txt.slice word none (some (step : Int))) (-1))) := by rw [item_last (by lia  )]; exact fun q => hRd (List.mem_of_mem_drop q)
    have hA3 : 1 ≤ (Txt.slice word (some (step : Int)) none).length := by rw [hA1]; lia  
    have hA4 : (Txt.slice word (some (step : Int)) none).length ≤ 900 := by rw [hA1]; lia  
    have hB3 : 1 ≤ (Txt.slice word none (some ((word.length : Int) - step))).length := by rw [hB1]; lia  
    have hB4 : (Txt.slice word none (some ((word.length : Int) - step))).length ≤ 900 := by rw [hB1]; lia  
    have hB5 : (Txt.slice word none (some ((word.length : Int) - step))).length ≤ 400 := by rw [hB1]; lia  
    have hI3 := Nat.le_of_eq hI1.symm
    have hI4 : (Txt.item (word ++ Txt.slice word none (some (step : Int))) 0).length ≤ 300 := by rw [hI1]; lia  
    have hJ3 := Nat.le_of_eq hJ1.symm
    have hJ4 : (Txt.item (word ++ Txt.slice word none (some (step : Int))) (-1)).length ≤ 300 := by rw [hJ1]; lia  
    have hR3 : (word ++ Txt.slice word none (some (step : Int))).length ≤ 1000 := by rw [hR1]; lia  
    clear hA1 hB1 hC1 hC2 hR1 hRd hI1 hJ1
    k_steps
    unfold Stop
    refine' Ct.useL (hPP _ _ _ _ _ _ _ _) ?B ?F ?X ?N ?T ?K ?d ?u ?_
    walk_at "my uses"
    intro D' ws' k' h' tk' g' hS' hB' l1' F' N'
    (try k_lt l1')
    dsimp only
    k_steps
    unfold Stop
    refine' Ct.useB (EMu _ _ _ _ _ _ _ hA2 hA3 hA4 hw1) ?B ?F ?X ?N ?T ?K ?d ?u ?_
    walk_at "my uses"
    intro h' tk' F' N'
    dsimp only
    k_steps
    unfold Stop
    refine' Ct.useB (EMv _ _ _ _ _ _ _ hB2 hB3 hB4 hw1) ?B ?F ?X ?N ?T ?K ?d ?u ?_
    walk_at "my uses"
    intro h' tk' F' N'
    dsimp only
    k_steps
    unfold Stop
    refine' Ct.useB (EMab _ _ _ _ _ _ _ hB2 hB2 hB3 hB5 hB3 hB5 hw1) ?B ?F ?X ?N ?T ?K ?d ?u ?_
    walk_at "my uses"
    intro h' tk' F' N'
    dsimp only
    k_steps
    unfold Stop
    refine' Ct.useB (EMamb _ _ _ _ _ _ _ hI2 hd hJ2 hI3 hI4 hJ3 hJ4 hw2 hw3 hR3) ?B ?F ?X ?N ?T ?K ?d ?u ?_
    walk_at "my uses"
    intro h' tk' F' N'
    dsimp only
    k_steps

    rename Fr _ _ _ _ => F0
    rename Fr _ _ _ m => FG
    rename News _ _ _ _ => N0
    revert F0 FG N0
    repeat (rename Fr _ _ _ _ => Fz; clear Fz)
    repeat (rename News _ _ _ _ => Nz; clear Nz)
    intro _ _ _
    rename Fr _ _ _ m => FG
    rename Fr _ _ _ _ => F0
    rename News _ _ _ _ => N0

    rename StrsAre _ _ => hS
    rename BareKeep _ _ => hB1
    clear hA2 hA3 hA4 hB2 hB3 hB4 hB5 hI2 hI3 hI4 hJ2 hJ3 hJ4 hR3
    obtain ⟨x0, t0, xr, wr, exs, ews, hSr⟩ := strsAre_cons hS (pieces_ne h1 (by lia  ))
    subst ews
    have hSs : StrsAre (.str x0 t0 :: wr) (x0 :: xr) := .cons _ _ hSr
    have hmem : ∀ x ∈ x0 :: xr, 1 ≤ x.length ∧ x.length ≤ 100 ∧ nodot (ls x) := fun x hx => pieces_mem hd h1 hw (exs ▸ hx)
    obtain ⟨h01, h02, h03⟩ := hmem x0 (.head _)
    refine' citer_list (fun i v => !(Txt.endswith x0 (match v with | .str x _ => x | _ => x0))) (fun i ys news' g => g = _ ∧ news' = _ ∧ ys.isEmpty = ((x0 :: xr).take i).all fun x => Txt.endswith x0 x) rfl F0 N0 (by k_mem) ?hsz ⟨rfl, rfl, rfl⟩ ?skip ?tests ?elt ?done
    case hsz => rw [hSs.len_eq, ← exs, List.length_map]; exact Nat.le_trans (pieces_le h1 hw2) (by lia  )
    case skip =>
      rintro i v ys news₁ g hv hp ⟨rfl, rfl, hJ⟩
      obtain ⟨x, tx, rfl, hx⟩ := StrsAre.item hSs i v hv
      refine ⟨rfl, rfl, ?_⟩
      rw [hJ, List.take_add_one, hx, List.all_append]
      have : Txt.endswith x0 x = true := by simpa using hp
      simp [this]
    case tests =>
      rintro C D I i v ys news₁ h tk g own mC hC hD hI hv ⟨rfl, rfl, hJ⟩ hoff hown F N hn hm E'
      have cE := InElt.start h
      clear F0 N0
      obtain ⟨x, tx, rfl, hx⟩ := StrsAre.item hSs i v hv
      obtain ⟨hx1, hx2, hx3⟩ := hmem x (List.mem_of_getElem? hx)
      refine wpAny_tests_one ?_
      clear hmem hS hSr exs h01 h03 hB1 hd
      k_steps
      have hx2' : x.length ≤ 900 := by lia  
      have h02' : x0.length ≤ 1000 := by lia  
      unfold Stop
      refine' Ct.useB (EMv _ _ _ _ _ _ _ hx3 hx1 hx2' h02') ?B ?F ?X ?N ?T ?K ?d ?u ?_
      walk_at "my uses"
      intro h' tk' F' N'
      dsimp only
      k_steps
      all_goals first | (cases Txt.endswith x0 x <;> rfl) | k_asm | skip
    case elt =>
      rintro C D I i v ys news₁ h tk g own mC hC hD hI hv hp ⟨rfl, rfl, hJ⟩ hoff hown F N hn hm E'
      have cE := InElt.start h
      obtain ⟨x, tx, rfl, hx⟩ := StrsAre.item hSs i v hv
      clear F0 N0
      k_steps
      refine ⟨_, _, _, _, rfl, by k_asm, by k_asm, hoff, rfl, rfl, ?_⟩
      rw [List.take_add_one, hx, List.all_append]
      have : Txt.endswith x0 x = false := by simpa using hp
      simp [this]
    case done =>
      rintro D h' tk g news' ys k hD F N hoff ⟨rfl, rfl, hJ⟩
      clear F0 N0
      have hJ' : ys.isEmpty = (x0 :: xr).all fun x => Txt.endswith x0 x := by rw [hJ, hSs.len_eq, List.take_length]
      clear hmem hS hSr h01 h03 hd hJ hSs
      k_steps
      walk_at "my leave"
      refine ret_isF hret ?hb ?hl (asked_eq h1 h2 exs hJ') (by k_asm) (led_head (by k_asm) (by walk_at "my sub1"))
      case hb => exact hB1
      case hl =>
        rename (_ < _ ∧ _ ∧ _ ∧ _ ∧ _ ∧ _) => lz
        exact allLt_mem lz.2.2.2.2.2
end
section
open PySem PySem.W PyProof.Rows
open PySem.Builtin PySem.Builtin.Str
set_option maxRecDepth 100000
set_option maxHeartbeats 8000000

/-! a loop whose target is a cell -/
section
variable {prog : Program} {w : World} {A : Around} {s : Shared} {env : Env} {h₀ : Heap} {E : Value → Shared → Prop}
inductive ForCI (St : Nat → Heap → Prop) (c : Addr) (h₀ : Heap) (L : Addr) (wr : List Addr) (J : Nat → (Str → Option Value) → List (Addr × Obj) → Array GenState → Prop) (n : Nat) (s : Shared) (k : Nat) (s' : Shared) : Prop
  | mk (h' : Heap) (tk : Nat) (g : Array GenState) (m' : Str → Option Value) (news' : List (Addr × Obj)) (i : Nat) (o : Obj) (v : Option Value) (e : s' = { s with heap := h', toks := tk, gens := g }) (hd : o.data = .cell v) (hst : St i h') (F : Fr h₀ L h' m') (N : News h₀ L h' ((c, o) :: news')) (hnw : ∀ p ∈ news', p.1 ∉ c :: wr) (hJ : J i m' news' g) (hi : i ≤ n) (hk : k = n + 1 - i) : ForCI St c h₀ L wr J n s k s'
theorem forC {R : Result → Shared → Prop} {x : Str} {px : Pos} {body : List Stmt} {I c : Addr} {fp wr : List Addr} {n : Nat} {P : Nat → Value → Prop} {St : Nat → Heap → Prop} {m : Str → Option Value}
    {news : List (Addr × Obj)} {o₀ : Obj} {v₀ : Option Value} (W : Walks prog w A I fp wr n P St) (hk : env.scope.kind = .function) (hx : env.kindOf x = some .cell) (hc : env.cells.lookup x = some c)
    (hLf : env.locals ∉ fp) (hcf : c ∉ fp) (hwr : ∀ b ∈ wr, h₀.get? b = none) (hnw : ∀ p ∈ news, p.1 ∉ c :: wr) (hd : o₀.data = .cell v₀)
    (hst : St 0 s.heap) (F : Fr h₀ env.locals s.heap m) (N : News h₀ env.locals s.heap ((c, o₀) :: news))
    (J : Nat → (Str → Option Value) → List (Addr × Obj) → Array GenState → Prop) (h0 : J 0 m news s.gens)
    (step : ∀ i v m₁ news₁ o h tk g own, i < n → P i v → J i m₁ news₁ g → (∀ p ∈ news₁, p.1 ∉ c :: wr) → (∀ p ∈ own, p.1 ∈ fp) → o.data = .cell (some v) →
      St (i + 1) h → Fr h₀ env.locals h m₁ → News h₀ env.locals h ((c, o) :: (news₁ ++ own)) →
      wpAny (model prog w) A (execs body env) (TurnPost h₀ env.locals (c :: wr) ((c, o) :: own) (J (i + 1)) s fun f s' => R (.ok f) s') (notedBy (model prog w) A env fun e s' => R (.error e) s') { s with heap := h, toks := tk, gens := g })
    (hR : ∀ h' tk g m' news' o v, o.data = .cell v → Fr h₀ env.locals h' m' → News h₀ env.locals h' ((c, o) :: news') → J n m' news' g → R (.ok .next) { s with heap := h', toks := tk, gens := g }) :
    codeAny (model prog w) A (.forLoop (.Name x px) (.ref I) body [] env) R s := by
  have hLw : env.locals ∉ wr := fun h => hLf (W.sub _ h)
  have hcw : c ∉ wr := fun h => hcf (W.sub _ h)
  have old : ∀ b o, h₀.get? b = some o → b ∉ wr := fun b o e hb => by rw [hwr b hb] at e; cases e
  refine codeAny_forLoop
    (ForCI St c h₀ env.locals wr J n s) ?_ (n + 1)
    ⟨s.heap, s.toks, s.gens, m, news, 0, o₀, v₀, rfl, hd, hst, F, N, hnw, h0, Nat.zero_le _, rfl⟩
  rintro k s' ⟨h', tk, g, m', news', i, o, v, rfl, hd', hst', F', N', hnw', hJ, hi, rfl⟩
  have hnw2 : ∀ p ∈ (c, o) :: news', p.1 ∉ wr := fun p hp => by
    rcases List.mem_cons.mp hp with rfl | hp
    · exact hcw
    · exact fun q => hnw' p hp (.tail _ q)
  have next : ∀ h₁ : Heap, (∀ b o, b ∉ wr → h'.get? b = some o → h₁.get? b = some o) → Fr h₀ env.locals h₁ m' ∧ News h₀ env.locals h₁ ((c, o) :: news') := fun h₁ hk₁ =>
    ⟨⟨F'.ns.at' fun o e => hk₁ _ o hLw e, fun b o e => hk₁ b o (old b o e) (F'.keep b o e), F'.above⟩, fun p hp => ⟨hk₁ _ _ (hnw2 p hp) (N' p hp).1, (N' p hp).2⟩⟩
  by_cases hlt : i < n
  · refine W.item i _ _ _ hlt hst' fun v₁ h₁ tk₁ hP hst₁ hk₁ => ?_
    obtain ⟨F₁, N₁⟩ := next h₁ hk₁
    have hcN := N₁ _ (.head _)
    refine wpAny_assign_Name (wpAny_storeName_cell hk hx hc ⟨o, hcN.1, hd'⟩ fun h₂ hv₂ hs₂ => ?_)
    obtain ⟨o₂, ho₂, hd₂⟩ := hv₂
    have F₂ : Fr h₀ env.locals h₂ m' := ⟨F₁.ns.at' fun o e => hs₂.extBut _ o (Ne.symm hcN.2.1) e, fun b o e => hs₂.extBut b o (fun q => by rw [q, hcN.2.2] at e; cases e) (F₁.keep b o e), F₁.above⟩
    have Nown : News h₀ env.locals h₂ (ownOf h₀ fp h₂) := news_ownOf hLf
    have Nn : News h₀ env.locals h₂ news' := fun p hp => ⟨hs₂.extBut _ _ (fun q => hnw' p hp (q ▸ .head _)) (N₁ p (.tail _ hp)).1, (N₁ p (.tail _ hp)).2⟩
    have Nc : News h₀ env.locals h₂ ((c, o₂) :: (news' ++ ownOf h₀ fp h₂)) := fun p hp => by
      rcases List.mem_cons.mp hp with rfl | hp
      · exact ⟨ho₂, hcN.2⟩
      · exact news_swap (Nown.append Nn) p hp
    have hst₂ : St (i + 1) h₂ := W.frame _ _ _ hst₁ fun b hb o e => hs₂.extBut b o (fun q => hcf (q ▸ hb)) e
    refine wpAny_mono (step i v₁ m' news' o₂ h₂ _ g (ownOf h₀ fp h₂) hlt hP hJ hnw' ownOf_sub hd₂ hst₂ F₂ Nc) (fun f s₃ h₃ => ?_) fun _ _ e => e
    have fin : TurnEnd h₀ env.locals (c :: wr) ((c, o₂) :: ownOf h₀ fp h₂) (J (i + 1)) s s₃ → ∃ m_1, m_1 < n + 1 - i ∧ ForCI St c h₀ env.locals wr J n s m_1 s₃ := by
      rintro ⟨h₃', tk₃, g₃, m₂, news₂, rfl, F₃, N₃, ha₃, hJ₃⟩
      refine ⟨n + 1 - (i + 1), by lia  , h₃', tk₃, g₃, m₂, news₂, i + 1, o₂, some v₁, rfl, hd₂, ?_, F₃, ?_, ha₃, hJ₃, hlt, rfl⟩
      · refine W.frame _ _ _ hst₁ fun b hb o e => ?_
        have e₂ : h₂.get? b = some o := hs₂.extBut b o (fun q => hcf (q ▸ hb)) e
        cases hn : h₀.get? b with
        | some o₀ =>
          have : o₀ = o := by have := F₂.keep b o₀ hn; rw [e₂] at this; exact (Option.some.inj this).symm
          exact this ▸ F₃.keep b o₀ hn
        | none => exact (N₃ _ (List.mem_append_right _ (.tail _ (mem_ownOf hb hn e₂)))).1
      · intro p hp
        rcases List.mem_cons.mp hp with rfl | hp
        · exact N₃ _ (List.mem_append_right _ (.head _))
        · exact N₃ p (List.mem_append_left _ hp)
    cases f with
    | ret v => exact h₃
    | brk => exact h₃
    | cont => exact fin h₃
    | next => exact fin h₃
  · have hin : i = n := by lia  
    subst hin
    refine W.done _ _ _ hst' fun h₁ tk₁ hk₁ => wpAny_execs_nil ?_
    obtain ⟨F₁, N₁⟩ := next h₁ hk₁
    exact hR h₁ tk₁ g m' news' o v hd' F₁ N₁ hJ
noncomputable def LoopCE (prog : Program) (w : World) (A : Around) (env : Env) (x : Str) (px : Pos) (body : List Stmt) (Q : Flow → Shared → Prop) (E : Value → Shared → Prop) (it : Value) (s₂ : Shared) : Prop :=
  ∃ I, it = .ref I ∧ codeAny (model prog w) A (.forLoop (.Name x px) (.ref I) body [] env) (fun r s' => match r with | .ok f => Q f s' | .error e => cameBackBy (model prog w) A env E e s') s₂
theorem For_C {Q : Flow → Shared → Prop} {x : Str} {px pos : Pos} {iter : Expr} {body : List Stmt}
    (h : wpAny (model prog w) A (eval iter env) (fun xv s₁ => wpAny (model prog w) A (pyIter xv) (fun it s₂ => LoopCE prog w A env x px body Q E it s₂) E s₁) E s)
    (hs : ∀ x, foldedSetIterable iter env x = pure x := by intro _; rfl) :
    wpAny (model prog w) A (exec (.For (.Name x px) iter body [] pos) env) Q E s := by
  refine wpAny_For (wpAny_mono h (fun xv s₁ h₁ => wpAny_mono h₁ (fun it s₂ h₂ => ?_) fun _ _ e => e) fun _ _ e => e) hs
  obtain ⟨I, rfl, G⟩ := h₂
  exact G
theorem iter_rangeC {Q : Flow → Shared → Prop} {x : Str} {px : Pos} {body : List Stmt} {r c : Addr} {a b : Int} {t u v' : Tok} {n : Nat} {m : Str → Option Value} {news : List (Addr × Obj)} {o₀ : Obj} {v₀ : Option Value}
    (J : Nat → (Str → Option Value) → List (Addr × Obj) → Array GenState → Prop) (hh : A.handled = none) (hr : IsRange s.heap r a b 1 t u v') (hn : Builtin.Range.rangeSize a b 1 = (n : Int)) (hsm : Builtin.Range.small a b 1 = true)
    (hk : env.scope.kind = .function) (hx : env.kindOf x = some .cell) (hc : env.cells.lookup x = some c) (hd : o₀.data = .cell v₀) (hnc : ∀ p ∈ news, p.1 ≠ c)
    (F : Fr h₀ env.locals s.heap m) (N : News h₀ env.locals s.heap ((c, o₀) :: news))
    (h0 : J 0 m news s.gens)
    (step : ∀ I i tv m₁ news₁ o h tk g own, s.heap.objs.size ≤ I → i < n → J i m₁ news₁ g → (∀ p ∈ news₁, p.1 ∉ [c, I]) → (∀ p ∈ own, p.1 = I) → LT.lt (α := Nat) I h.objs.size → o.data = .cell (some (.int (a + i) tv)) →
      Fr h₀ env.locals h m₁ → News h₀ env.locals h ((c, o) :: (news₁ ++ own)) →
      wpAny (model prog w) A (execs body env) (TurnPost h₀ env.locals [c, I] ((c, o) :: own) (J (i + 1)) s Q) E { s with heap := h, toks := tk, gens := g })
    (done : ∀ h' tk g m' news' o v, o.data = .cell v → Fr h₀ env.locals h' m' → News h₀ env.locals h' ((c, o) :: news') → J n m' news' g → Q .next { s with heap := h', toks := tk, gens := g })
    (hE : PassesOwn (model prog w) A env E := by passes_own) :
    wpAny (model prog w) A (pyIter (.ref r)) (fun it s₂ => LoopCE prog w A env x px body Q E it s₂) E s := by
  refine wpAny_pyIter_range hr hsm ?_
  have W := Walks.range (prog := prog) (w := w) hh s.heap.objs.size a 1 n
  have hcN := N _ (.head _)
  refine ⟨_, rfl, forC (R := fun r s' => match r with | .ok f => Q f s' | .error e => cameBackBy (model prog w) A env E e s') (s := { s with heap := s.heap.push _ }) W hk hx hc ?_ ?_ ?_ ?_ hd ?_ (F.push _) (fun p hp => ⟨Heap.get?_push_of_some _ (N p hp).1, (N p hp).2⟩) J h0 ?_ ?_⟩
  · intro hb
    exact absurd F.ns.lt ((List.mem_singleton.mp hb) ▸ Nat.lt_irrefl _)
  · intro hb
    exact absurd (Heap.lt_size hcN.1) ((List.mem_singleton.mp hb) ▸ Nat.lt_irrefl _)
  · intro b hb
    rw [List.mem_singleton.mp hb]
    exact next_is_new F
  · intro p hp hI
    rcases List.mem_cons.mp hI with q | hI
    · exact hnc p hp q
    · exact absurd (Heap.lt_size (N p (.tail _ hp)).1) ((List.mem_singleton.mp hI) ▸ Nat.lt_irrefl _)
  · have := Heap.get?_push_size (h := s.heap) (o := { cls := .type "range_iterator", data := .fields #[rawInt a, rawInt (Builtin.Range.rangeSize a b 1), rawInt 1] }) rfl
    rw [hn] at this ⊢
    simpa [IsRangeIter] using this
  · intro i v m₁ news₁ o h tk g own hi hP hJ ha hb hd₁ st F₁ N₁
    obtain ⟨tv, rfl⟩ := hP
    rw [Int.mul_one] at hd₁
    exact wpAny_passesOwn hE (wpAny_mono (step s.heap.objs.size i tv m₁ news₁ o h tk g own (Nat.le_refl _) hi hJ ha (fun p hp => List.mem_singleton.mp (hb p hp)) (Heap.lt_size st) hd₁ F₁ N₁) (fun _ _ q => q) fun _ _ q => q)
  · intro h' tk g m' news' o v hv F' N' hJ
    exact done h' tk g m' news' o v hv F' N' hJ
theorem cut_val {t : Sem Value} {Q : Value → Shared → Prop} (r : Value) (h1 : wpAny (model prog w) A t (fun v s' => v = r ∧ ∃ k, s' = { s with toks := k }) E s) (h2 : ∀ k, Q r { s with toks := k }) : wpAny (model prog w) A t Q E s :=
  wpAny_mono h1 (fun v s' h => by obtain ⟨rfl, k, rfl⟩ := h; exact h2 k) fun _ _ e => e
theorem ints_item {vs : List Value} {ns : List Int} (h : IntsAre vs ns) {i : Nat} {v : Value} (hv : vs[i]? = some v) : ∃ n t, v = .int n t ∧ ns[i]? = some n := by
  obtain ⟨n, t, e, hn⟩ := h.at i v hv
  exact ⟨n, t, e, hn⟩
theorem ints_snoc : ∀ {ys : List Value} {ns : List Int} (_ : IntsAre ys ns) (n : Int) (t : Tok), IntsAre (ys ++ [.int n t]) (ns ++ [n])
  | _, _, .nil, n, t => .cons n t .nil
  | _, _, .cons x t' r, n, t => .cons x t' (ints_snoc r n t)
theorem take_filter_yes {α : Type} (l : List α) (p : α → Bool) {i : Nat} {d : α} (h : l[i]? = some d) (hp : p d = true) : (l.take (i + 1)).filter p = (l.take i).filter p ++ [d] := by
  rw [List.take_add_one, h, List.filter_append]; simp [hp]
theorem take_filter_no {α : Type} (l : List α) (p : α → Bool) {i : Nat} {d : α} (h : l[i]? = some d) (hp : p d = false) : (l.take (i + 1)).filter p = (l.take i).filter p := by
  rw [List.take_add_one, h, List.filter_append]; simp [hp]
end
end
section
open PySem PySem.W PyProof.Rows
open PySem.Builtin PySem.Builtin.Str
set_option maxRecDepth 100000
set_option maxHeartbeats 8000000

theorem pair_back {m₁ m : Str → Option Value} {xi xc : Str} {v w : Option Value} (h : Off [xi, xc] m m₁) : Off [xi, xc] m (fun y => if y = xc then v else if y = xi then w else m₁ y) := fun z hz => by
  have h1 : z ≠ xc := fun e => hz (by simp [e])
  have h2 : z ≠ xi := fun e => hz (by simp [e])
  show (if z = xc then v else if z = xi then w else m₁ z) = _
  rw [if_neg h1, if_neg h2, h z hz]
theorem pair_eq {m₁ m : Str → Option Value} {xi xc : Str} {v w : Option Value} (h : Off [xi, xc] m m₁) : (fun y => if y = xc then v else if y = xi then w else m₁ y) = fun y => if y = xc then v else if y = xi then w else m y := by
  funext y
  by_cases e : y = xc
  · rw [if_pos e, if_pos e]
  · rw [if_neg e, if_neg e]
    by_cases e' : y = xi
    · rw [if_pos e', if_pos e']
    · rw [if_neg e', if_neg e', h y (by simp [e, e'])]
section
variable {prog : Program} {w : World} {A : Around} {s : Shared} {env : Env} {h₀ : Heap} {E : Value → Shared → Prop}
theorem zip_loop {Q : Flow → Shared → Prop} {xi xc : Str} {body : List Stmt} {l1 l2 : Addr} {xs ys : List Value} {k1 k2 : Nat} {m : Str → Option Value} {news : List (Addr × Obj)}
    (hh : A.handled = none) (F : Fr h₀ env.locals s.heap m) (N : News h₀ env.locals s.heap news) (m1 : (l1, W.listOf xs.toArray k1) ∈ news) (m2 : (l2, W.listOf ys.toArray k2) ∈ news)
    (step : ∀ (i : Nat) v0 v1 h tk own, xs[i]? = some v0 → ys[i]? = some v1 → Fr h₀ env.locals h (fun y => if y = xc then some v1 else if y = xi then some v0 else m y) → News h₀ env.locals h (own ++ news) →
      wpAny (model prog w) A (execs body env) (fun f s' => f = .next ∧ ∃ h' tk', s' = { s with heap := h', toks := tk' } ∧ Fr h₀ env.locals h' (fun y => if y = xc then some v1 else if y = xi then some v0 else m y) ∧ News h₀ env.locals h' (own ++ news)) E { s with heap := h, toks := tk })
    (done : ∀ h' tk m', Off [xi, xc] m m' → Fr h₀ env.locals h' m' → News h₀ env.locals h' news → Q .next { s with heap := h', toks := tk }) :
    wpAny (model prog w) A (call (.type "zip") [.ref l1, .ref l2]) (fun xv s₁ => wpAny (model prog w) A (pyIter xv) (fun it s₂ => PairAt3 prog w A h₀ env xi xc body Q E it s₂) E s₁) E s := by
  have hl1 : s.heap.IsList l1 xs.toArray := isList_of N m1
  have hl2 : s.heap.IsList l2 ys.toArray := isList_of N m2
  have lt1 : l1 < s.heap.objs.size := Heap.lt_size (N _ m1).1
  have lt2 : l2 < s.heap.objs.size := Heap.lt_size (N _ m2).1
  have hLt : env.locals < s.heap.objs.size := F.ns.lt
  refine call_zip_2 hl1 hl2 fun h' z1 z2 z3 z4 z5 _ hk => ?_
  refine wpAny_pyIter_zip z1 ?_
  have D := ktu_apart s.heap.objs.size l1 l2 lt1 lt2
  have W := WalksT.zip2 (prog := prog) (w := w) hh (s.heap.objs.size + 4) (s.heap.objs.size + 2) (s.heap.objs.size + 3) s.heap.objs.size (s.heap.objs.size + 1) l1 l2 D xs.toArray ys.toArray
  have F₁ : Fr h₀ env.locals h' m := ⟨F.ns.at' fun o e => hk _ o e, fun b o e => hk b o (F.keep b o e), F.above⟩
  have N₁ : News h₀ env.locals h' news := fun p hp => ⟨hk _ _ (N p hp).1, (N p hp).2⟩
  have big : ∀ b, b ∈ [s.heap.objs.size + 4, s.heap.objs.size + 3, s.heap.objs.size, s.heap.objs.size + 1] → LE.le (α := Nat) s.heap.objs.size b := fun b hb => by
    simp only [List.mem_cons, List.not_mem_nil, or_false] at hb
    rcases hb with q | q | q | q <;> rw [q] <;> lia  
  refine ⟨_, _, _, _, _, _, _, fun (i : Nat) v0 v1 => xs[i]? = some v0 ∧ ys[i]? = some v1, m, news, fun _ m₁ n₁ => n₁ = news ∧ Off [xi, xc] m m₁, rfl, W, ?_, ?_, ?_, ?_, ⟨z1, z2, ⟨_, _, z3⟩, z4, z5, hl1.at fun o e => hk _ o e, hl2.at fun o e => hk _ o e⟩, F₁, N₁, ⟨rfl, Off.refl⟩, ?_, ?_⟩
  · rintro i vals ⟨x, y, hx, hy, rfl⟩
    exact ⟨x, y, rfl, by simpa using hx, by simpa using hy⟩
  · intro hb
    simp only [List.mem_cons, List.not_mem_nil, or_false] at hb
    have hLt' : LT.lt (α := Nat) env.locals s.heap.objs.size := hLt
    rcases hb with q | q | q | q | q | q | q
    · rw [q] at hLt'; lia  
    · rw [q] at hLt'; lia  
    · rw [q] at hLt'; lia  
    · rw [q] at hLt'; lia  
    · rw [q] at hLt'; lia  
    · exact (N _ m1).2.1 q.symm
    · exact (N _ m2).2.1 q.symm
  · intro b hb
    exact ktu_new F (big b hb)
  · intro p hp hb
    exact absurd (Heap.lt_size (N p hp).1) (Nat.not_lt.mpr (big _ hb))
  · rintro i v0 v1 m₁ news₁ s₁ own ⟨h, tk, rfl⟩ hi ⟨hx, hy⟩ ⟨rfl, hm⟩ ha hb F₂ N₂
    rw [pair_eq hm] at F₂
    refine wpAny_mono (step i v0 v1 h tk own hx hy F₂ N₂) (fun f s' hs => ?_) fun _ _ e => e
    obtain ⟨rfl, h₃, tk₃, rfl, F₃, N₃⟩ := hs
    exact ⟨rfl, h₃, tk₃, _, news₁, rfl, F₃, N₃, rfl, rfl, pair_back Off.refl⟩
  · rintro h₃ tk m' news' F₃ N₃ ha ⟨rfl, hm⟩
    exact done h₃ tk m' hm F₃ N₃
end
end
section
open PySem PySem.W PyProof.Rows
open PySem.Builtin PySem.Builtin.Str
set_option maxRecDepth 100000
set_option maxHeartbeats 8000000

/-- as Ct, with a word on the heap that the frame stands on -/
noncomputable def CtP (k : Nat) (w : World) (mean : ExcName → Option Value) (mg mb : Str → Option Value) (Pre : Heap → Prop) (f : Addr) (news : List (Addr × Obj)) (vs : List Value)
    (post : Value → List (Addr × Obj) → Array GenState → Array GenState → Prop) : Prop :=
  ∀ (dp un : Nat) (gd : Option (List Code)) (cn : Str) (cs : Scope) (a : Addr) (ccd : Value) (cl : List (Str × Addr)) (outer : List Env) (A₀ : Around) (base h₀ : Heap) (L : Addr) (m : Str → Option Value) (s : Shared) (Q E : Value → Shared → Prop),
    Pre h₀ → Below A₀ base outer h₀ → Fr h₀ L s.heap m → (Mine.hd.heap_39 w.params).In h₀ → News h₀ L s.heap news → Top topProg LLo mean mg mb h₀ → cs.kind = .function → dp + k < recursionLimit → un + 8 * k < cLine →
    (∀ v news' h' tk' g', post v news' s.gens g' → Fr h₀ L h' m → News h₀ L h' news' → Q v { s with heap := h', toks := tk', gens := g' }) →
    wpAny (model PySem.Challenge.rw_re0036_01.row.prog w) (ktrTop dp un gd cn cs L a ccd cl outer) (call (.ref f) vs) Q E s
section
variable {k : Nat} {w : World} {mean : ExcName → Option Value} {mg mb : Str → Option Value} {f : Addr} {news : List (Addr × Obj)} {vs : List Value} {post : Value → List (Addr × Obj) → Array GenState → Array GenState → Prop} {Pre : Heap → Prop}
theorem CtP.use (C : CtP k w mean mg mb Pre f news vs post) {dp un : Nat} {gd : Option (List Code)} {cn : Str} {cs : Scope} {a : Addr} {ccd : Value} {cl : List (Str × Addr)} {outer : List Env} {A₀ : Around} {base h₀ : Heap} {L : Addr} {m : Str → Option Value} {s : Shared} {Q E : Value → Shared → Prop}
    (P : Pre h₀) (B : Below A₀ base outer h₀) (F : Fr h₀ L s.heap m) (X : (Mine.hd.heap_39 w.params).In h₀) (N : News h₀ L s.heap news) (T : Top topProg LLo mean mg mb h₀) (hk : cs.kind = .function) (hd : dp + k < recursionLimit) (hu : un + 8 * k < cLine)
    (ret : ∀ v news' h' tk' g', post v news' s.gens g' → Fr h₀ L h' m → News h₀ L h' news' → Q v { s with heap := h', toks := tk', gens := g' }) :
    wpAny (model PySem.Challenge.rw_re0036_01.row.prog w) (ktrTop dp un gd cn cs L a ccd cl outer) (call (.ref f) vs) Q E s := C _ _ _ _ _ _ _ _ _ _ _ _ _ _ _ _ _ P B F X N T hk hd hu ret
end
end
section
open PySem PySem.W PyProof.Rows
open PySem.Builtin PySem.Builtin.Str
set_option maxRecDepth 100000
set_option maxHeartbeats 8000000

inductive EnumI (h₀ : Heap) (L : Addr) (own news₁ : List (Addr × Obj)) (J : (Str → Option Value) → List (Addr × Obj) → Prop) (g : Array GenState) (dr : Drawn) (os : OsState) (f : Flow) (s' : Shared) : Prop
  | mk (hf : f = .next) (h' : Heap) (tk' : Nat) (m₂ : Str → Option Value) (news₂ : List (Addr × Obj)) (e : s' = ⟨h', g, dr, tk', os⟩) (F : Fr h₀ L h' m₂) (N : News h₀ L h' (own ++ news₂)) (hm : news₂.map (·.1) = news₁.map (·.1)) (hJ : J m₂ news₂) : EnumI h₀ L own news₁ J g dr os f s'
noncomputable def EnumEnd (h₀ : Heap) (L : Addr) (own news₁ : List (Addr × Obj)) (J : (Str → Option Value) → List (Addr × Obj) → Prop) (s : Shared) (f : Flow) (s' : Shared) : Prop := EnumI h₀ L own news₁ J s.gens s.drawn s.os f s'
section
variable {prog : Program} {w : World} {A : Around} {s : Shared} {env : Env} {h₀ : Heap} {E : Value → Shared → Prop}
theorem enum_loop {Q : Flow → Shared → Prop} {xi xc : Str} {body : List Stmt} {l : Addr} {vs : List Value} {k : Nat} {m : Str → Option Value} {news : List (Addr × Obj)}
    (J : Nat → (Str → Option Value) → List (Addr × Obj) → Prop)
    (hh : A.handled = none) (F : Fr h₀ env.locals s.heap m) (N : News h₀ env.locals s.heap news) (m1 : (l, W.listOf vs.toArray k) ∈ news) (h0 : J 0 m news)
    (step : ∀ (i : Nat) v t m₁ news₁ h tk own, vs[i]? = some v → J i m₁ news₁ → news₁.map (·.1) = news.map (·.1) → (∀ p ∈ own, LE.le (α := Nat) s.heap.objs.size p.1 ∨ p.1 = l) → Fr h₀ env.locals h (fun y => if y = xc then some v else if y = xi then some (.int i t) else m₁ y) → News h₀ env.locals h (own ++ news₁) →
      wpAny (model prog w) A (execs body env) (EnumEnd h₀ env.locals own news₁ (J (i + 1)) s) E { s with heap := h, toks := tk })
    (done : ∀ h' tk m' news', Fr h₀ env.locals h' m' → News h₀ env.locals h' news' → news'.map (·.1) = news.map (·.1) → J vs.length m' news' → Q .next { s with heap := h', toks := tk }) :
    wpAny (model prog w) A (call (.type "enumerate") [.ref l]) (fun xv s₁ => wpAny (model prog w) A (pyIter xv) (fun it s₂ => PairAt3 prog w A h₀ env xi xc body Q E it s₂) E s₁) E s := by
  have hl : s.heap.IsList l vs.toArray := isList_of N m1
  have lt1 : l < s.heap.objs.size := Heap.lt_size (N _ m1).1
  have hLt : env.locals < s.heap.objs.size := F.ns.lt
  refine call_enumerate_list hl fun h' he hit _ hk => ?_
  refine wpAny_pyIter_enum he ?_
  have F₁ : Fr h₀ env.locals h' m := ⟨F.ns.at' fun o e => hk _ o e, fun b o e => hk b o (F.keep b o e), F.above⟩
  have N₁ : News h₀ env.locals h' news := fun p hp => ⟨hk _ _ (N p hp).1, (N p hp).2⟩
  have lt1' : LT.lt (α := Nat) l s.heap.objs.size := lt1
  have W := WalksT.enumerate (prog := prog) (w := w) hh (s.heap.objs.size + 1) s.heap.objs.size l (Nat.succ_ne_self _) (Nat.ne_of_lt (Nat.lt_succ_of_lt lt1)) (Nat.ne_of_lt lt1) vs.toArray
  refine ⟨_, _, _, _, _, _, _, fun (i : Nat) v0 v1 => (∃ t, v0 = .int i t) ∧ vs[i]? = some v1, m, news, J, rfl, W, ?_, ?_, ?_, ?_, ⟨⟨_, by simpa using he⟩, hit, hl.at fun o e => hk _ o e⟩, F₁, N₁, h0, ?_, ?_⟩
  · rintro i vals ⟨t, x, hx, rfl⟩
    exact ⟨_, _, rfl, ⟨t, rfl⟩, by simpa using hx⟩
  · intro hb
    simp only [List.mem_cons, List.not_mem_nil, or_false] at hb
    have hLt' : LT.lt (α := Nat) env.locals s.heap.objs.size := hLt
    rcases hb with q | q | q
    · rw [q] at hLt'; omega
    · rw [q] at hLt'; omega
    · exact (N _ m1).2.1 q.symm
  · intro b hb
    refine ktu_new F ?_
    simp only [List.mem_cons, List.not_mem_nil, or_false] at hb
    rcases hb with q | q <;> rw [q]
    · exact Nat.le_succ _
    · exact Nat.le_refl _
  · intro p hp hb
    have := Heap.lt_size (N p hp).1
    simp only [List.mem_cons, List.not_mem_nil, or_false] at hb
    rcases hb with q | q <;> rw [q] at this
    · exact absurd this (Nat.not_lt.mpr (Nat.le_succ _))
    · exact Nat.lt_irrefl _ this
  · rintro i v0 v1 m₁ news₁ s₁ own ⟨h, tk, rfl⟩ hi ⟨⟨t, rfl⟩, hx⟩ hJ ha hb F₂ N₂
    refine wpAny_mono (step i v1 t m₁ news₁ h tk own hx hJ ha (fun p hp => ?_) F₂ N₂) (fun f s' hs => ?_) fun _ _ e => e
    · have := hb p hp
      simp only [List.mem_cons, List.not_mem_nil, or_false] at this
      rcases this with q | q | q
      · exact .inl (q ▸ Nat.le_succ _)
      · exact .inl (q ▸ Nat.le_refl _)
      · exact .inr q
    · obtain ⟨rfl, h₃, tk₃, m₂, news₂, rfl, F₃, N₃, hn, hJ'⟩ := hs
      exact ⟨rfl, h₃, tk₃, m₂, news₂, rfl, F₃, N₃, hn, hJ'⟩
  · intro h₃ tk m' news' F₃ N₃ ha hJ
    exact done h₃ tk m' news' F₃ N₃ ha (by simpa using hJ)
end
end
section
open PySem PySem.W PyProof.Rows
open PySem.Builtin PySem.Builtin.Str
open PySem.Builtin.ObjectAttr
set_option maxRecDepth 100000
set_option maxHeartbeats 8000000

theorem slot_fn_setattr : Slot "function" "__setattr__" "object.__setattr__" :=
  .of (owner := "object") (n := "__setattr__") (by rw [typeLookup_type, builtinLookup_eq_fast]; kernel_rfl) (by decide +kernel) (by decide +kernel) (by decide +kernel)
    (by first | exact .inl (by decide +kernel) | exact .inr (by decide +kernel)) (by rw [isSubtype_type]; kernel_rfl)
theorem slot_fn_getattr : Slot "function" "__getattribute__" "object.__getattribute__" :=
  .of (owner := "object") (n := "__getattribute__") (by rw [typeLookup_type, builtinLookup_eq_fast]; kernel_rfl) (by decide +kernel) (by decide +kernel) (by decide +kernel)
    (by first | exact .inl (by decide +kernel) | exact .inr (by decide +kernel)) (by rw [isSubtype_type]; kernel_rfl)
theorem look_fn_read : typeLookup (.type "function") (Str.ofString "read") = pure none := by
  rw [typeLookup_type, builtinLookup_eq_fast]; kernel_rfl
theorem look_fn_getattr : typeLookup (.type "function") (Str.ofString "__getattr__") = pure none := by
  rw [typeLookup_type, builtinLookup_eq_fast]; kernel_rfl
section
variable {prog : Program} {w : World} {A : Around} {s : Shared} {E : Value → Shared → Prop} {x : Addr} {o : Obj} {v : Value}
theorem typeHasDict_fn : typeHasDict (.type "function") = true := by kernel_rfl
theorem dictMade_fn (a d : Addr) : dictMade (.type "function") a d = pure (some d) := by
  unfold dictMade
  have e : finalisedInACycleAlone "function" = false := by decide +kernel
  simp only [e]
  rfl
theorem mro_fn : mroOf (.type "function") = pure [.type "function", .type "object"] := by kernel_rfl
theorem refuse_fn (self : Value) : refuseLoop self (Str.ofString "__setattr__") [.type "function", .type "object"] = pure () := by
  unfold refuseLoop; kernel_rfl
theorem setAttr_fn {Q : Unit → Shared → Prop} (hx : s.heap.get? x = some o) (hc : o.cls = .type "function") (hd : o.dict = none) {fd : FuncData} (hdt : o.data = .func fd)
    (h : ∀ h' tk, h'.get? x = some { o with dict := some s.heap.objs.size } → h'.Ns1 s.heap.objs.size (fun y => if y = Str.ofString "read" then some v else none) → (∀ b ob, b ≠ x → s.heap.get? b = some ob → h'.get? b = some ob) → Q () { s with heap := h', toks := tk }) :
    wpAny (model prog w) A (setAttr (.ref x) (Str.ofString "read") v) Q E s := by
  have hT : s.TypeIs (.ref x) "function" := ⟨_, hx, hc⟩
  unfold setAttr
  refine wpAny_bind (wpAny_mkText ?_)
  refine wpAny_bind (wpAny_callSpecial?_slot (name := Str.ofString "__setattr__") (T := "function") hT slot_fn_setattr (wpAny_call_entry slot_fn_setattr hT F.entry_object_setattr ?_ (F.args_object_setattr_3 _ _ _)))
  unfold Builtin.«object.__setattr__»
  show wpAny _ _ (ObjectAttr.refuseIfOverridden (.ref x) (Str.ofString "__setattr__") >>= fun _ => ObjectAttr.attrName (.str (Str.ofString "read") s.toks) >>= fun name => typeOf (.ref x) >>= fun tp => typeLookup tp name >>= fun attr => ObjectAttr.storeTaker? attr >>= fun t => match t with
          | some a => ObjectAttr.setByDescriptor a (.ref x) v
          | none => ObjectAttr.storeInOwnDict (.ref x) tp (.str (Str.ofString "read") s.toks) name v attr.isSome) _ _ _
  rw [refuse_eq]
  repeat (first | (with_reducible refine wpAny_loadPart_at hx ?_; rw [hc]) | rw [mro_fn] | rw [refuse_fn] | rw [look_fn_read] | wp_step)
  rw [hd, if_neg (by simp [typeHasDict_fn]), hdt]
  have hx₁ : (s.heap.push { cls := .type "dict", data := .dict #[] }).get? x = some o := Heap.get?_push_of_some _ hx
  have hxs : x ≠ s.heap.objs.size := Nat.ne_of_lt (Heap.lt_size hx)
  refine wpAny_bind (wpAny_alloc' ?_)
  refine wpAny_bind (wpAny_update' hx₁ ?_)
  rw [dictMade_fn]
  refine wpAny_pure ?_
  have hgd : ((s.heap.push { cls := .type "dict", data := .dict #[] }).update x fun o => { cls := o.cls, dict := some s.heap.objs.size, data := o.data, slots := o.slots }).get? s.heap.objs.size
      = some { cls := .type "dict", data := .dict #[] } :=
    (Heap.get?_update_ne _ _ _ _ hxs.symm).trans (Heap.get?_push_at rfl rfl)
  have hnd : ((s.heap.push { cls := .type "dict", data := .dict #[] }).update x fun o => { cls := o.cls, dict := some s.heap.objs.size, data := o.data, slots := o.slots }).Ns s.heap.objs.size (fun _ => none) :=
    ⟨_, #[], _, hgd, rfl, fun e he => absurd he (by simp), fun _ => rfl⟩
  show wpAny _ _ (ObjectAttr.storeInDict s.heap.objs.size (.str (Str.ofString "read") s.toks) (Str.ofString "read") v) _ _ _
  unfold storeInDict newKeyGuard
  refine wpAny_bind (wpAny_pure (wpAny_bind (wpAny_nsSet1 (Heap.Ns1.of_empty hnd) fun h' hn' hs => ?_)))
  obtain ⟨oD, esD, epD, hoD, hdD, hcD⟩ := hn'.count (Within.cons (Str.ofString "read") v Within.nil)
  refine wpAny_bind (wpAny_lookBehind hoD (by rw [hdD]; exact pastItsLine_dict (Nat.le_trans hcD (by rw [List.length_cons, List.length_nil, sizeLine_eq]; omega))) ?_)
  have hx' : h'.get? x = some { o with dict := some s.heap.objs.size } := by
    refine (hs.2 x hxs).trans (Heap.get?_update_self _ hx₁ ?_)
    rw [hdt]; rfl
  have hk : ∀ b ob, b ≠ x → s.heap.get? b = some ob → h'.get? b = some ob := fun b ob hbx hb =>
    (hs.2 b (Nat.ne_of_lt (Heap.lt_size hb))).trans ((Heap.get?_update_ne _ _ _ _ hbx).trans (Heap.get?_push_of_some _ hb))
  have key := fun tk => h h' tk hx' hn' hk
  wp_walk
  exact ⟨_, rfl, wpAny_pure (key _)⟩
/-- what a dict's object says of its names -/
noncomputable def DictIs (od : Obj) (m : Str → Option Value) : Prop := ∃ es ep, od.data = .dict es ep ∧ StrKeys es ∧ UniqKeys es ∧ ∀ name, nsFind es name = m name
theorem DictIs.ns {od : Obj} {m : Str → Option Value} {h : Heap} {a : Addr} (x : DictIs od m) (e : h.get? a = some od) : h.Ns a m := let ⟨es, ep, d, k, _, f⟩ := x; ⟨od, es, ep, e, d, k, f⟩
theorem setAttr_led {Q : Unit → Shared → Prop} {h₀ : Heap} {L : Addr} {m : Str → Option Value} {news rest : List (Addr × Obj)} {fd : FuncData} (F : Fr h₀ L s.heap m) (N : News h₀ L s.heap news) (hm : (x, o) ∈ news)
    (hr : ∀ p ∈ rest, p ∈ news) (hne : ∀ p ∈ rest, p.1 ≠ x) (hc : o.cls = .type "function") (hd : o.dict = none) (hdt : o.data = .func fd)
    (h : ∀ h' tk dx od, Fr h₀ L h' m → News h₀ L h' ((dx, od) :: (x, { o with dict := some dx }) :: rest) → DictIs od (fun y => if y = Str.ofString "read" then some v else none) → (∀ p ∈ (x, { o with dict := some dx }) :: rest, p.1 < dx) → Q () { s with heap := h', toks := tk }) :
    wpAny (model prog w) A (setAttr (.ref x) (Str.ofString "read") v) Q E s := by
  have hx := N _ hm
  refine setAttr_fn hx.1 hc hd hdt fun h' tk hx' hn hk => ?_
  obtain ⟨od, es, ep, e1, e2, e3, e4, e5⟩ := hn
  have lt : ∀ p ∈ (x, { o with dict := some s.heap.objs.size }) :: rest, p.1 < s.heap.objs.size := fun p hp => by
    rcases List.mem_cons.mp hp with rfl | hp
    · exact Heap.lt_size hx.1
    · exact Heap.lt_size (N p (hr p hp)).1
  refine h h' tk s.heap.objs.size od ⟨F.ns.at' fun ob e => hk _ ob (Ne.symm hx.2.1) e, fun b ob e => hk b ob (fun q => by rw [q, hx.2.2] at e; cases e) (F.keep b ob e), F.above⟩ (fun p hp => ?_) ⟨es, ep, e2, e3, e4, e5⟩ lt
  rcases List.mem_cons.mp hp with rfl | hp
  · exact ⟨e1, Nat.ne_of_gt F.ns.lt, next_is_new F⟩
  · rcases List.mem_cons.mp hp with rfl | hp
    · exact ⟨hx', hx.2⟩
    · exact ⟨hk _ _ (hne p hp) (N p (hr p hp)).1, (N p (hr p hp)).2⟩
theorem setAttr_led3 {Q : Unit → Shared → Prop} {h₀ : Heap} {L : Addr} {m : Str → Option Value} {a b : Addr × Obj} {rest : List (Addr × Obj)} {fd : FuncData} (F : Fr h₀ L s.heap m) (N : News h₀ L s.heap (a :: b :: (x, o) :: rest))
    (ha : a.1 ≠ x) (hb : b.1 ≠ x) (hne : ∀ p ∈ rest, p.1 ≠ x) (hc : o.cls = .type "function") (hd : o.dict = none) (hdt : o.data = .func fd)
    (h : ∀ h' tk dx od, Fr h₀ L h' m → News h₀ L h' ((dx, od) :: (x, { o with dict := some dx }) :: a :: b :: rest) → DictIs od (fun y => if y = Str.ofString "read" then some v else none) → (∀ p ∈ (x, { o with dict := some dx }) :: a :: b :: rest, p.1 < dx) → Q () { s with heap := h', toks := tk }) :
    wpAny (model prog w) A (setAttr (.ref x) (Str.ofString "read") v) Q E s :=
  setAttr_led (rest := a :: b :: rest) F N (.tail _ (.tail _ (.head _))) (fun p hp => by
    rcases List.mem_cons.mp hp with rfl | hp
    · exact .head _
    · rcases List.mem_cons.mp hp with rfl | hp
      · exact .tail _ (.head _)
      · exact .tail _ (.tail _ (.tail _ hp))) (fun p hp => by
    rcases List.mem_cons.mp hp with rfl | hp
    · exact ha
    · rcases List.mem_cons.mp hp with rfl | hp
      · exact hb
      · exact hne p hp) hc hd hdt h
end
end
section
open PySem PySem.W PyProof.Rows
open PySem.Builtin PySem.Builtin.Str
set_option maxRecDepth 100000
set_option maxHeartbeats 8000000

theorem cell_said {o : Obj} {v v' : Option Value} (h : o.data = .cell v) (e : v = v') : o.data = .cell v' := e ▸ h
theorem strs_of_car {vs : List Value} {xs : List Str} (h : CarriedAll vs (xs.map PyData.str)) : StrsAre vs xs := by
  induction xs generalizing vs with
  | nil => cases h; exact .nil
  | cons x xs ih =>
    cases h with
    | cons a r =>
      cases a
      exact .cons _ _ (ih r)
section
variable {prog : Program} {w : World} {A : Around} {s : Shared} {E : Value → Shared → Prop} {h₀ : Heap} {L : Addr} {m : Str → Option Value} {Q : Value → Shared → Prop}
theorem list_str_led {x : Str} {t : Tok} {news : List (Addr × Obj)} (hsz : x.length ≤ 10000) (hh : A.handled = none) (F : Fr h₀ L s.heap m) (N : News h₀ L s.heap news)
    (h : ∀ D ys k h' tk, Fr h₀ L h' m → News h₀ L h' ((D, W.listOf ys.toArray k) :: news) → StrsAre ys (signs x) → (∀ p ∈ news, p.1 < D) → Q (.ref D) { s with heap := h', toks := tk }) :
    wpAny (model prog w) A (call (.type "list") [.str x t]) Q E s := by
  refine list_strD hh F N (fun h' tk ys F' N' _ h0 _ np hc => ?_) (by unfold sizeLine; omega)
  obtain ⟨n, N2⟩ := made_enters np F' N' h0
  exact h _ ys n h' tk F' N2 (strs_of_car hc) fun p hp => Heap.lt_size (N p hp).1
end
section
variable {prog : Program} {w : World} {A : Around} {s : Shared} {E : Value → Shared → Prop} {h₀ : Heap} {L : Addr} {m : Str → Option Value} {Q : Value → Shared → Prop}
theorem pop_led {D : Addr} {v : Value} {vs : List Value} {k : Nat} {t : Tok} {rest : List (Addr × Obj)} (F : Fr h₀ L s.heap m) (N : News h₀ L s.heap ((D, W.listOf (v :: vs).toArray k) :: rest)) (hne : ∀ p ∈ rest, p.1 ≠ D) (hsz : vs.length ≤ 10000)
    (h : ∀ h' k', Fr h₀ L h' m → News h₀ L h' ((D, W.listOf vs.toArray k') :: rest) → Q v { s with heap := h' }) : wpAny (model prog w) A (call (.builtin "list.pop") [.ref D, .int 0 t]) Q E s := by
  have hk : seqIndex? 0 (v :: vs).toArray.size = some 0 := by
    rw [List.size_toArray]; exact StrLaws.seqIndex_nonneg (Int.le_refl _) (by simp)
  exact kl_popAt (p := []) (q := vs) (k := 0) F N (by decide +kernel) hk (by rfl) (Upd.head hne) (by simp only [List.length_cons]; unfold sizeLine; omega) fun h' F' N' => h h' _ F' N'
end
/-- the entries of the lexer's own dict -/
abbrev lxE (w : World) (k1 k2 k3 k4 tl tw : Tok) (ln : Int) (st pb : Addr) : List DictEntry :=
  [{ hash := PyData.keyHash w.params (Str.ofString "lineno"), key := .str (Str.ofString "lineno") k1, val := .int ln tl },
   { hash := PyData.keyHash w.params (Str.ofString "instream"), key := .str (Str.ofString "instream") k2, val := .ref st },
   { hash := PyData.keyHash w.params (Str.ofString "whitespace"), key := .str (Str.ofString "whitespace") k3, val := .str (Str.ofString "\n\t\r ") tw },
   { hash := PyData.keyHash w.params (Str.ofString "pushback"), key := .str (Str.ofString "pushback") k4, val := .ref pb }]
end
section
open PySem PySem.W PyProof.Rows
open PySem.Builtin PySem.Builtin.Str
set_option maxRecDepth 100000
set_option maxHeartbeats 8000000




local macro_rules | `(tactic| walk_at "my none 0") => `(tactic| skip)
local macro_rules | `(tactic| walk_at "compareOp NotEq ref ref") => `(tactic| (k_dflt (refine' ne_empty ?eN ?eD ?el ?eu ?ei ?_; (case eN => k_asm); (case eD => exact .tail _ (.head _)); (case el => exact .head _); (case eu => first | omega | ((try simp only [Around.deeper_units]); (try dsimp only [ktrTop]); omega)); (case ei => assumption))))

local macro_rules | `(tactic| walk_at "call type:zip") => `(tactic| (refine stop_here ?_))
local macro_rules | `(tactic| walk_at "eval BoolOp") => `(tactic| ((with_reducible show wpAny _ _ (eval (Expr.BoolOp _ _ _) _) (fun v s₁ => wpAny _ _ (storeName _ _ v) _ _ s₁) _ _); refine stop_here ?_))
local macro_rules | `(tactic| walk_at "exec For Name Call cons nil") => `(tactic| (k_here; k_dflt (with_unfolding_all refine' For_C ?_; k_whole)))

theorem five_same {a b c d e : Bool} {j : Nat} {v0 v1 : Value} (h0 : [Value.bool a, .bool b, .bool c, .bool d, .bool e][j]? = some v0) (h1 : [Value.bool a, .bool b, .bool c, .bool d, .bool e][j]? = some v1) : ∃ b, v0 = .bool b ∧ v1 = .bool b := by
  rw [h0] at h1
  cases h1
  rcases j with _ | _ | _ | _ | _ | j <;> simp at h0 <;> exact ⟨_, h0.symm, h0.symm⟩
noncomputable def lessQ (n st : Nat) (x : Int) : Bool := decide (x < st) && ((n : Int).fmod x == 0)
noncomputable def lessP (n st : Nat) (v : Value) : Bool := match v with | .int x _ => lessQ n st x | _ => false
theorem ints_empty : ∀ {ys : List Value} {ns : List Int}, IntsAre ys ns → ys.isEmpty = ns.isEmpty
  | _, _, .nil => rfl
  | _, _, .cons _ _ _ => rfl
theorem off_eq {xs : List Str} {m₀ m m' : Str → Option Value} (h : Off xs m₀ m) (e : m = m') : Off xs m₀ m' := e ▸ h
theorem Off.trans {xs ys : List Str} {m₀ m₁ m₂ : Str → Option Value} (h1 : Off xs m₀ m₁) (h2 : Off ys m₁ m₂) (hs : ∀ y ∈ ys, y ∈ xs) : Off xs m₀ m₂ := fun z hz => (h2 z fun q => hz (hs z q)).trans (h1 z hz)
theorem any_steps (st : List Nat) (i : Nat) : ((st.map Int.ofNat).any fun x => x == (i : Int)) = st.contains i := by
  rw [List.any_map, Bool.eq_iff_iff, List.any_eq_true, List.contains_iff_mem]
  constructor
  · rintro ⟨x, hx, h⟩
    have : (x : Int) = i := beq_iff_eq.mp h
    have : x = i := by lia  
    exact this ▸ hx
  · intro h; exact ⟨i, h, beq_self_eq_true _⟩
theorem less_any {n st : Nat} (steps : List Nat) : (((steps.map Int.ofNat).filter fun x => lessQ n st x).isEmpty) = !steps.any (fun l => decide (l < st) && n % l == 0) := by
  induction steps with
  | nil => rfl
  | cons a r ih =>
    have e : lessQ n st (Int.ofNat a) = (decide (a < st) && n % a == 0) := by
      unfold lessQ
      have e1 : decide (Int.ofNat a < (st : Int)) = decide (a < st) := by simp
      have e2 : ((n : Int).fmod (Int.ofNat a) == 0) = (n % a == 0) := by
        have : (n : Int).fmod (Int.ofNat a) = ((n % a : Nat) : Int) := by
          rw [show (Int.ofNat a) = ((a : Nat) : Int) from rfl, Int.fmod_eq_emod_of_nonneg _ (Int.natCast_nonneg a)]; exact (Int.natCast_emod n a).symm
        rw [this, Bool.eq_iff_iff, beq_iff_eq, beq_iff_eq]; lia  
      rw [e1, e2]
    rw [List.map_cons, List.filter_cons, e, List.any_cons]
    cases (decide (a < st) && n % a == 0) with
    | true => rfl
    | false => simpa using ih
theorem told_list {word : Str} {i : Nat} {ys vs : List Value} (hT : toldG (ls word) = true) (hin : i < word.length - 1) (hi : IntsAre vs ((stepsG (ls word)).map Int.ofNat)) (hJ : IntsAre ys (((stepsG (ls word)).map Int.ofNat).take vs.length |>.filter fun x => lessQ word.length (i + 1) x)) :
    (askedG (ls word) (i + 1)).map Value.bool = [.bool (((stepsG (ls word)).map Int.ofNat).any fun x => x == ((i + 1 : Nat) : Int)), .bool (((stepsG (ls word)).map Int.ofNat).any fun x => x == ((i + 1 : Nat) : Int)),
      .bool ((((stepsG (ls word)).map Int.ofNat).any fun x => x == ((i + 1 : Nat) : Int)) && decide (2 * ((word.length : Int) - ((i + 1 : Nat) : Int)) ≤ word.length)), .bool (!ys.isEmpty), .bool (((stepsG (ls word)).map Int.ofNat).any fun x => x == ((i + 1 : Nat) : Int))] := by
  unfold toldG at hT
  have := List.all_eq_true.mp hT i (by rw [List.mem_range, ls_length]; exact hin)
  rw [beq_iff_eq.mp this, any_steps]
  have e1 : decide (2 * ((word.length : Int) - ((i + 1 : Nat) : Int)) ≤ word.length) = decide (2 * (word.length - (i + 1)) ≤ word.length) := by
    rw [Bool.eq_iff_iff, decide_eq_true_eq, decide_eq_true_eq]; lia  
  have e2 : (!ys.isEmpty) = (stepsG (ls word)).any (fun l => decide (l < i + 1) && word.length % l == 0) := by
    rw [hi.length, List.take_length] at hJ
    have : ys.isEmpty = (((stepsG (ls word)).map Int.ofNat).filter fun x => lessQ word.length (i + 1) x).isEmpty := by
      exact ints_empty hJ
    rw [this, less_any, Bool.not_not]
  rw [e1, e2]
  unfold wishedG
  rw [ls_length]
  rfl
theorem steps_pos {w : List Nat} {j : Nat} {x : Int} (h : ((stepsG w).map Int.ofNat)[j]? = some x) : 1 ≤ x := by
  have := List.mem_of_getElem? h
  obtain ⟨y, hy, rfl⟩ := List.mem_map.mp this
  have hy := (List.mem_filter.mp hy).1
  obtain ⟨z, _, rfl⟩ := List.mem_map.mp hy
  show (1 : Int) ≤ ((z + 1 : Nat) : Int)
  lia  
theorem steps_le {w : List Nat} (h : w.length ≤ 1000) : (stepsG w).length ≤ 1000 := by
  have := List.length_filter_le (dueG w) ((List.range (w.length - 1)).map (· + 1))
  rw [List.length_map, List.length_range] at this
  unfold stepsG; lia  
theorem frame_at2 {m : Str → Option Value} {a b : Str} {v w : Option Value} (h : m a = v) (h' : m b = w) : m = fun y => if y = a then v else if y = b then w else m y := by
  funext y
  by_cases e : y = a
  · rw [if_pos e, e, h]
  · rw [if_neg e]
    by_cases e' : y = b
    · rw [if_pos e', e', h']
    · rw [if_neg e']
noncomputable def isT (news : List (Addr × Obj)) : Value → List (Addr × Obj) → Array GenState → Array GenState → Prop := fun v news' g g' => v = .bool true ∧ news' = news ∧ BareKeep g g'
theorem told_ct (w : World) (mean : ExcName → Option Value) (mg mb : Str → Option Value) (news : List (Addr × Obj)) (word : Str) (t : Tok) (l : Addr) (vs : List Value) (k : Nat) (e : Bool) (hi : IntsAre vs ((stepsG (ls word)).map Int.ofNat)) (hd : nodot (ls word)) (hw : word.length ≤ 6) (h1 : 4 ≤ word.length) (hTd : toldG (ls word) = true) :
   Ct 20 w mean mg mb 130 ((l, W.listOf vs.toArray k) :: news) [.str word t, .ref l, .bool e] (isT ((l, W.listOf vs.toArray k) :: news)) := by
  w_top on
  w_on
  unfold Ct
  k_fill
  intro dp un gd cn cs a ccd cl outer A₀ base h₀ L m s Q E hB hF hX hN hT hK hDp hUn hret
  walk_at "my enter"
  rename Fr _ _ _ _ => FF
  have FN := reframe (m' := fun y => if y = Str.ofString "ended" then some (.bool e) else (if y = Str.ofString "steps" then some (.ref l) else (none))) FF (by with_unfolding_all rfl)
  clear FF hF hN

  k_steps
  rename IsRange _ _ _ _ _ _ _ _ => hr
  rename Fr _ _ _ _ => F0
  rename News _ _ _ _ => N0
  rename _ = Data.cell _ => d2
  revert d2
  rename _ = Data.cell _ => d1
  intro d2
  rename IntsAre _ _ => hi
  rename (_ ∧ AllLt _ _) => l1
  have dW := cell_said (v' := some (.str word t)) d2 (by with_unfolding_all rfl)
  have dS := cell_said (v' := none) d1 (by with_unfolding_all rfl)
  clear d1 d2
  refine' iter_rangeC (n := word.length - 1) (fun i m' news' g => BareKeep s.gens g ∧ Off [Str.ofString "due", Str.ofString "half", Str.ofString "turned", Str.ofString "told", Str.ofString "wished"] _ m' ∧ news' = _) rfl hr (range_size (by lia  )) (range_small (by lia  ) (by lia  ) (by lia  ) (by lia  )) rfl rfl rfl dS ?hnc F0 N0 ⟨BareKeep.refl, Off.refl, rfl⟩ ?step ?done
  case hnc =>
    intro p hp
    rcases List.mem_cons.mp hp with rfl | hp
    · exact Nat.ne_of_lt (Nat.lt_succ_self _)
    · exact Nat.ne_of_lt (Nat.lt_trans (led_lt l1 p hp) (Nat.lt_trans (Nat.lt_succ_self _) (Nat.lt_succ_self _)))
  case step =>
    rintro I i tv m₁ news₁ o h tk g own hI hin ⟨hbk, hm, rfl⟩ hoff hown hIlt dI F N
    have e1 : (1 + (i : Int)) = ((i + 1 : Nat) : Int) := by lia  
    rw [e1] at dI
    simp only [List.cons_append, List.nil_append] at N
    have F := reframe F (frame_at2 (hm (Str.ofString "steps") (by decide)) (hm (Str.ofString "ended") (by decide)))
    clear hr F0 N0
    dsimp only at F
    k_steps
    unfold Stop
    refine' cut_val (.bool (((List.map Int.ofNat (stepsG (ls word))).any fun x => x == ((i + 1 : Nat) : Int)) && decide (2 * ((word.length : Int) - ((i + 1 : Nat) : Int)) ≤ word.length))) ?hv ?hw
    case hv =>
      k_steps
      all_goals (rename (List.any _ _) = _ => hz; rw [hz]; rfl)
    case hw =>
      intro tkk
      k_steps
      rename Fr _ _ _ _ => F0
      rename News _ _ _ _ => N0
      refine' citer_list (fun _ v => lessP word.length (i + 1) v) (fun j ys news' g => g = _ ∧ news' = _ ∧ IntsAre ys (((stepsG (ls word)).map Int.ofNat).take j |>.filter fun x => lessQ word.length (i + 1) x)) rfl F0 N0 (by k_mem) ?hsz ⟨rfl, rfl, .nil⟩ ?skip ?tests ?elt2 ?done2
      case hsz => rw [hi.length, List.length_map]; exact steps_le (by rw [ls_length]; lia  )
      case skip =>
        rintro j v ys news₂ g hv hp ⟨rfl, rfl, hJ⟩
        obtain ⟨x, tx, rfl, hx⟩ := ints_item hi hv
        refine ⟨rfl, rfl, ?_⟩
        rw [take_filter_no _ _ hx hp]; exact hJ
      case tests =>
        rintro C D I2 j v ys news₂ h tk g own2 mC hC hD hI hv ⟨rfl, rfl, hJ⟩ hoff2 hown2 F N hn hm2 E'
        have cE := InElt.start h
        clear F0 N0
        obtain ⟨x, tx, rfl, hx⟩ := ints_item hi hv
        refine wpAny_tests_one ?_
        have hx1 := steps_pos hx
        dsimp only
        k_steps
        all_goals first | k_asm | (dsimp only; k_asm) | skip
        all_goals (show _ = lessQ word.length (i + 1) x; unfold lessQ; symm)
        all_goals first | (rw [Bool.and_eq_true, decide_eq_true_eq, beq_iff_eq]; lia  ) | (rw [Bool.and_eq_false_iff, decide_eq_false_iff_not, beq_eq_false_iff_ne]; lia  )
      case elt2 =>
        rintro C D I2 j v ys news₂ h tk g own2 mC hC hD hI hv hp ⟨rfl, rfl, hJ⟩ hoff2 hown2 F N hn hm2 E'
        have cE := InElt.start h
        clear F0 N0
        obtain ⟨x, tx, rfl, hx⟩ := ints_item hi hv
        dsimp only
        k_steps
        refine ⟨_, _, _, _, rfl, by k_asm, by k_asm, hoff2, rfl, rfl, ?_⟩
        rw [take_filter_yes _ _ hx hp]; exact ints_snoc hJ _ _
      case done2 =>
        rintro D h' tk g news' ys k hD F N hoff2 ⟨rfl, rfl, hJ⟩
        clear F0 N0
        dsimp only
        k_steps
        refine' Ct.use (asked_ct _ _ _ _ _ _ _ _ (i + 1) _ hd (by lia  ) (by lia  ) (by lia  )) ?B ?F ?X ?N ?T ?K ?d ?u ?_
        walk_at "my uses"
        intro v' n' h' tk' g' hp' F' N'
        obtain ⟨D', k', e1', e2', hbk', l1'⟩ := hp'
        subst e1' e2'
        rw [told_list hTd hin hi hJ] at N'
        (try k_lt l1')
        dsimp only
        k_steps
        unfold Stop
        rename Fr _ _ _ _ => F1
        rename News _ _ _ _ => N1
        refine' zip_loop rfl F1 N1 (by k_mem) (by k_mem) ?zstep ?zdone
        case zstep =>
          intro j v0 v1 h tk own3 hv0 hv1 F N
          obtain ⟨b, rfl, rfl⟩ : ∃ b, v0 = .bool b ∧ v1 = .bool b := five_same hv0 hv1
          clear F1 N1 hv0 hv1
          dsimp only
          cases b
          · k_steps
            all_goals k_asm
          · k_steps
            all_goals k_asm
        case zdone =>
          intro h tk m2 hm2 F N
          clear F1 N1
          dsimp only
          k_steps
          refine ⟨_, _, _, _, _ :: _ :: news, rfl, by k_asm, news_sub (by k_asm) (by walk_at "my sub"), hoff, hbk.trans hbk', ?off2, rfl⟩
          refine Off.trans ?_ hm2 (by simp)
          exact Off.put (Off.put (Off.put (off_eq hm (frame_at2 (hm (Str.ofString "steps") (by decide)) (hm (Str.ofString "ended") (by decide)))) (by simp)) (by simp)) (by simp)
  case done =>
    rintro h' tk g m' news' o v dv F N ⟨hbk, hm, rfl⟩
    clear hr F0 N0
    k_steps
    walk_at "my leave"
    exact hret _ _ _ _ _ ⟨rfl, rfl, hbk⟩ (by k_asm) (by walk_at "my news")
end
end
section
local macro_rules | `(tactic| k_all) => `(tactic| assumption)
section
open PySem PySem.W PyProof.Rows
open PySem.Builtin PySem.Builtin.Str
set_option maxRecDepth 100000
set_option maxHeartbeats 8000000

theorem allLt_mono {a b : Nat} : ∀ {r : List (Addr × Obj)}, AllLt a r → a ≤ b → AllLt b r
  | [], _, _ => trivial
  | _ :: _, h, hab => ⟨Nat.lt_of_lt_of_le h.1 hab, allLt_mono h.2 hab⟩
theorem strsAre_head {vs : List Value} {x : Str} {xs : List Str} (h : StrsAre vs (x :: xs)) : ∃ t wr, vs = .str x t :: wr ∧ StrsAre wr xs := by
  cases h with
  | cons x t r => exact ⟨t, _, rfl, r⟩
theorem read_ne {a b c : Addr × Obj} {nws own : List (Addr × Obj)} {lf : Addr} {bad : List Addr} (h : ∀ p ∈ a :: b :: c :: nws, p.1 ≠ lf) (ho : ∀ p ∈ own, p.1 ∈ bad) (hl : lf ∉ bad) : ∀ p ∈ a :: b :: c :: (nws ++ own), p.1 ≠ lf := fun p hp e => by
  simp only [List.mem_cons, List.mem_append] at hp
  rcases hp with q | q | q | q | q
  · exact h p (by simp [q]) e
  · exact h p (by simp [q]) e
  · exact h p (by simp [q]) e
  · exact h p (by simp [q]) e
  · exact hl (e ▸ ho p q)
noncomputable def popHead (l : List (Addr × Obj)) (vs : List Value) (k : Nat) : List (Addr × Obj) := match l with
  | (a, _) :: r => (a, W.listOf vs.toArray k) :: r
  | [] => []
theorem assoc4 {h₀ h : Heap} {L : Addr} {a b c d : Addr × Obj} {r own : List (Addr × Obj)} (N : News h₀ L h (a :: b :: c :: d :: (r ++ own))) : News h₀ L h ((a :: b :: c :: d :: r) ++ own) := N
theorem popHead_off {l : List (Addr × Obj)} {vs : List Value} {k : Nat} {bad : List Addr} (h : ∀ p ∈ l, p.1 ∉ bad) : ∀ p ∈ popHead l vs k, p.1 ∉ bad := by
  cases l with
  | nil => intro p hp; cases hp
  | cons a r =>
    obtain ⟨a, o⟩ := a
    intro p hp
    rcases List.mem_cons.mp hp with rfl | hp
    · exact h (a, o) (.head _)
    · exact h p (.tail _ hp)
theorem join_one (c : Str) : Txt.join (Str.ofString "") [c] = c := by
  show glued _ _ = _
  rw [StrLaws.glued_eq_join, join_nil]
  simp [S_ls]
/-- what a call of the stream's read comes to -/
noncomputable def ReadOk (w : World) (mean : ExcName → Option Value) (mg mb : Str → Option Value) (rd : Addr) (ord : Obj) (cc : Addr) (occ : Obj) (cell : Addr) (ocell : Obj) (lf : Addr) : Prop :=
  (∃ fd, ord.data = .func fd) ∧ ∀ (ys : List Value) (xs : List Str) (k : Nat) (t : Tok) (news : List (Addr × Obj)), StrsAre ys xs → xs.length ≤ 1000 → (∀ x ∈ xs, x.length = 1) → (∀ p ∈ (rd, ord) :: (cc, occ) :: (cell, ocell) :: news, p.1 ≠ lf) →
    Ct 6 w mean mg mb rd ((lf, W.listOf ys.toArray k) :: (rd, ord) :: (cc, occ) :: (cell, ocell) :: news) [.int 1 t]
      (fun v news' g g' => g' = g ∧ (xs = [] → (∃ t, v = .str (Str.ofString "") t) ∧ news' = (lf, W.listOf ys.toArray k) :: (rd, ord) :: (cc, occ) :: (cell, ocell) :: news) ∧
        ∀ c r, xs = c :: r → (∃ t, v = .str c t) ∧ ∃ ys' k', StrsAre ys' r ∧ news' = (lf, W.listOf ys'.toArray k') :: (rd, ord) :: (cc, occ) :: (cell, ocell) :: news)
/-- the lexer, made -/
inductive LxI (w : World) (mean : ExcName → Option Value) (mg mb : Str → Option Value) (text : Str) (news : List (Addr × Obj)) (g : Array GenState) : Value → List (Addr × Obj) → Array GenState → Prop
  | mk (x dx pb st ds rd cc cell lf : Addr) (k1 k2 k3 k4 tl tw : Tok) (n kp kl : Nat) (ys : List Value) (ods ost ord occ ocell : Obj) (ps : Array Value)
    (h1 : StrsAre ys (signs text)) (h2 : DictIs ods (fun y => if y = Str.ofString "read" then some (.ref rd) else none)) (h3 : ost.cls = .type "function") (h4 : ost.dict = some ds) (h5 : ∃ fd, ost.data = .func fd) (h6 : ReadOk w mean mg mb rd ord cc occ cell ocell lf)
    (h7 : AllLt cell news ∧ LT.lt (α := Nat) cell lf ∧ LT.lt (α := Nat) lf st ∧ LT.lt (α := Nat) st cc ∧ LT.lt (α := Nat) cc rd ∧ LT.lt (α := Nat) rd ds ∧ LT.lt (α := Nat) ds dx ∧ LT.lt (α := Nat) dx x ∧ LT.lt (α := Nat) x pb) :
    LxI w mean mg mb text news g (.ref x) ((pb, W.listOf ([] : List Value).toArray kp) :: (x, instObj 66 dx) :: (dx, dictOf (lxE w k1 k2 k3 k4 tl tw 1 st pb) n) :: (lf, W.listOf ys.toArray kl) :: (rd, ord) :: (cc, occ) :: (cell, ocell) :: (ds, ods) :: (st, ost) :: (79, tabObj ps) :: news) g
noncomputable def LxPost (w : World) (mean : ExcName → Option Value) (mg mb : Str → Option Value) (text : Str) (news : List (Addr × Obj)) (v : Value) (news' : List (Addr × Obj)) (g g' : Array GenState) : Prop := LxI w mean mg mb text news g v news' g'
theorem lx_intro {w : World} {mean : ExcName → Option Value} {mg mb : Str → Option Value} {text : Str} {news : List (Addr × Obj)} {h₀ h' : Heap} {L : Addr} {m : Str → Option Value} {s : Shared} {Q : Value → Shared → Prop} {tk : Nat}
    (hret : ∀ v news' h' tk' g', LxPost w mean mg mb text news v news' s.gens g' → Fr h₀ L h' m → News h₀ L h' news' → Q v { s with heap := h', toks := tk', gens := g' })
    {x dx pb st ds rd cc cell lf : Addr} {k1 k2 k3 k4 tl tw : Tok} {n kp kl : Nat} {ys : List Value} {ods ost ord occ ocell : Obj} {q1 : Addr × Obj} {ps : Array Value}
    (F : Fr h₀ L h' m) (N : News h₀ L h' ((pb, W.listOf ([] : List Value).toArray kp) :: (x, instObj 66 dx) :: (dx, dictOf (lxE w k1 k2 k3 k4 tl tw 1 st pb) n) :: (ds, ods) :: (st, ost) :: (rd, ord) :: (cc, occ) :: q1 :: (lf, W.listOf ys.toArray kl) :: (cell, ocell) :: (79, tabObj ps) :: news))
    (h1 : StrsAre ys (signs text)) (h2 : DictIs ods (fun y => if y = Str.ofString "read" then some (.ref rd) else none)) (h3 : ost.cls = .type "function") (h4 : ost.dict = some ds) (h4' : ∃ fd, ost.data = .func fd) (h5 : ReadOk w mean mg mb rd ord cc occ cell ocell lf)
    (h6 : AllLt cell news ∧ LT.lt (α := Nat) cell lf ∧ LT.lt (α := Nat) lf st ∧ LT.lt (α := Nat) st cc ∧ LT.lt (α := Nat) cc rd ∧ LT.lt (α := Nat) rd ds ∧ LT.lt (α := Nat) ds dx ∧ LT.lt (α := Nat) dx x ∧ LT.lt (α := Nat) x pb) :
    Q (.ref x) { s with heap := h', toks := tk } :=
  hret _ _ h' tk _ (LxI.mk x dx pb st ds rd cc cell lf k1 k2 k3 k4 tl tw n kp kl ys ods ost ord occ ocell ps h1 h2 h3 h4 h4' h5 h6) F (news_sub N fun p hp => by
    simp only [List.mem_cons] at hp ⊢
    grind)
end
section
open PySem PySem.W PyProof.Rows
open PySem.Builtin PySem.Builtin.Str
open PySem.Builtin.ObjectAttr
set_option maxRecDepth 100000
set_option maxHeartbeats 8000000

section
variable {prog : Program} {w : World} {A : Around} {s : Shared} {E : Value → Shared → Prop} {x dx : Addr} {o : Obj} {v : Value}
theorem getAttr_fn {Q : Value → Shared → Prop} {mm : Str → Option Value} {b : Bool} (hx : s.heap.get? x = some o) (hc : o.cls = .type "function") (hd : o.dict = some dx) {fd : FuncData} (hdt : o.data = .func fd) (hn : s.heap.Ns dx mm) (hm : mm (Str.ofString "read") = some v) (hv : handedIn v = true)
    (h : ∀ tk, Q v { s with toks := tk }) :
    wpAny (model prog w) A (getAttr (.ref x) (Str.ofString "read") b) Q E s := by
  have hT : s.TypeIs (.ref x) "function" := ⟨_, hx, hc⟩
  unfold getAttr getAttrBy
  refine wpAny_bind (wpAny_mkText ?_)
  have e1 : typeLookup (.type "function") "__getattribute__" = pure (some (.builtin "object.__getattribute__")) := slot_fn_getattr.lookup
  repeat (first | (with_reducible refine wpAny_loadPart_at hx ?_; rw [hc]) | rw [look_fn_read] | rw [e1] | wp_step)
  rw [if_neg (by simp [onTheHeap])]
  unfold boundAndCalled
  refine wpAny_bind ?_
  rw [slot_fn_getattr.bind]
  refine wpAny_pure ?_
  refine wpAny_call_entry slot_fn_getattr hT F.entry_object_getattribute ?_ (F.args_object_getattribute_2 _ _)
  unfold Builtin.«object.__getattribute__»
  repeat (first | (with_reducible refine wpAny_loadPart_at hx ?_; rw [hc]) | rw [look_fn_read] | rw [e1] | wp_step)
  rw [hdt]
  show wpAny _ _ (instanceDict x false) _ _ _
  unfold instanceDict
  repeat (first | (with_reducible refine wpAny_nsGet hn ?_; rw [hm]) | (with_reducible refine wpAny_loadPart_at hx ?_; rw [hc]) | rw [hd] | wp_step)
  exact ⟨_, rfl, handed_on hv (h _)⟩
theorem getMethod_fn {Q : Value × List Value → Shared → Prop} {mm : Str → Option Value} {pl : Sem Bool} (hx : s.heap.get? x = some o) (hc : o.cls = .type "function") (hd : o.dict = some dx) {fd : FuncData} (hdt : o.data = .func fd) (hn : s.heap.Ns dx mm) (hm : mm (Str.ofString "read") = some v) (hv : handedIn v = true)
    (h : ∀ tk, Q (v, []) { s with toks := tk }) :
    wpAny (model prog w) A (getMethod (.ref x) (Str.ofString "read") pl) Q E s := by
  have hT : s.TypeIs (.ref x) "function" := ⟨_, hx, hc⟩
  unfold getMethod
  have e1 : typeLookup (.type "function") "__getattribute__" = pure (some (.builtin "object.__getattribute__")) := slot_fn_getattr.lookup
  refine wpAny_bind (wpAny_specialOf hT e1 ?_)
  have e2 : (Manifest.canonical "object.__getattribute__" != "object.__getattribute__") = false := by decide +kernel
  dsimp only
  rw [if_neg (by rw [e2]; decide)]
  refine wpAny_bind (wpAny_specialOf hT look_fn_getattr ?_)
  rw [if_neg (by decide)]
  refine wpAny_bind (wpAny_specialOf hT look_fn_read ?_)
  exact wpAny_bind (getAttr_fn hx hc hd hdt hn hm hv fun tk => wpAny_pure (h tk))
end
end
section
open PySem PySem.W PyProof.Rows
open PySem.Builtin PySem.Builtin.Str
open PySem.Builtin.ObjectAttr
set_option maxRecDepth 100000
set_option maxHeartbeats 8000000

/-! an iterator over what a method's calls give, up to a sentinel text -/
theorem slot_ci_next : Slot "callable_iterator" "__next__" "callable_iterator.__next__" :=
  .of (owner := "callable_iterator") (n := "__next__") (by rw [typeLookup_type, builtinLookup_eq_fast]; kernel_rfl) (by decide +kernel) (by decide +kernel) (by decide +kernel)
    (by first | exact .inl (by decide +kernel) | exact .inr (by decide +kernel)) (by rw [isSubtype_type]; kernel_rfl)
theorem entry_ci_next : entryFor table "callable_iterator.__next__" = some Builtin.«callable_iterator.__next__» := entryFor_of_tree (by kernel_rfl)
theorem args_ci_next (a : Value) : argsOk "callable_iterator.__next__" ⟨[a], []⟩ := by unfold argsOk; kernel_rfl
theorem slot_ci_iter : Slot "callable_iterator" "__iter__" "callable_iterator.__iter__" :=
  .of (owner := "callable_iterator") (n := "__iter__") (by rw [typeLookup_type, builtinLookup_eq_fast]; kernel_rfl) (by decide +kernel) (by decide +kernel) (by decide +kernel)
    (by first | exact .inl (by decide +kernel) | exact .inr (by decide +kernel)) (by rw [isSubtype_type]; kernel_rfl)
theorem entry_ci_iter : entryFor table "callable_iterator.__iter__" = some Builtin.«dict_keyiterator.__iter__» :=
  entryFor_alias (id' := "dict_keyiterator.__iter__") (by kernel_rfl) (by first | rfl | decide +kernel | (unfold String.splitOn; simp +decide [String.splitOnAux])) (by decide +kernel) (by kernel_rfl)
theorem args_ci_iter (a : Value) : argsOk "callable_iterator.__iter__" ⟨[a], []⟩ := by unfold argsOk; kernel_rfl
theorem slot_meth_call : Slot "method" "__call__" "method.__call__" :=
  .of (owner := "method") (n := "__call__") (by rw [typeLookup_type, builtinLookup_eq_fast]; kernel_rfl) (by decide +kernel) (by decide +kernel) (by decide +kernel)
    (by first | exact .inl (by decide +kernel) | exact .inr (by decide +kernel)) (by rw [isSubtype_type]; kernel_rfl)
namespace KI
theorem kind_iter : builtinKind "iter" = none := by decide +kernel
theorem plain_iter : plainId "iter" = true := by decide +kernel
theorem entry_iter : entryFor table "iter" = some Builtin.«iter» := entryFor_of_tree (by kernel_rfl)
theorem args_iter_2 (a b : Value) : argsOk "iter" ⟨[a, b], []⟩ := by unfold argsOk; kernel_rfl
end KI

abbrev ciObj (b : Addr) (t : Tok) : Obj := { cls := .type "callable_iterator", data := .fields #[.ref b, .str (Str.ofString "") t, .bool false] }
section
variable {prog : Program} {w : World} {A : Around} {s : Shared} {E : Value → Shared → Prop} {α : Type} {M : Model}
theorem wpAny_callBorrowed {f : Value} {pos : List Value} {Q : Value → Shared → Prop}
    (hc : codeAny M A (.call f ⟨pos, []⟩) (fun r s' => match r with | .ok (.ret v) => Q v s' | .ok _ => False | .error e => E e s') s) :
    wpAny M A (callBorrowed f pos) Q E s := fun Γ p hΓ => by
  have := hc _ p rfl (hΓ.enter (.call f ⟨pos, []⟩) none p (by intro x; cases x))
  unfold callBorrowed
  rw [Sem.wp_call]
  refine wpCode_mono (fun r s' h => ?_) this
  cases r with
  | error e => exact h
  | ok f => cases f <;> exact h
theorem call_iter2 {b f : Addr} {x : Value} {t : Tok} {Q : Value → Shared → Prop} (hb : s.heap.get? b = some (methodObj (.ref f) x))
    (h : Q (.ref s.heap.objs.size) { s with heap := s.heap.push (ciObj b t) }) :
    wpAny (model prog w) A (call (.builtin "iter") [.ref b, .str (Str.ofString "") t]) Q E s := by
  have hT : s.TypeIs (.ref b) "method" := ⟨_, hb, rfl⟩
  refine Calls.call_function_entry KI.kind_iter KI.plain_iter KI.entry_iter (KI.args_iter_2 _ _) ?_
  unfold Builtin.«iter»
  refine wpAny_bind (wpAny_of_eq (a := [.ref b, .str (Str.ofString "") t]) (by first | rfl | kernel_rfl) ?_)
  dsimp only
  refine wpAny_bind (wpAny_specialOf hT slot_meth_call.lookup ?_)
  refine wpAny_bind (wpAny_rule ?_)
  refine wpAny_bind (wpAny_newObj_type ?_ (by size_fits))
  exact wpAny_pure ⟨_, rfl, h⟩
theorem wpAny_borrows {b f : Addr} {x : Value} {fo : Obj} {fd : FuncData} {Q : Bool → Shared → Prop} (hb : s.heap.get? b = some (methodObj (.ref f) x)) (hf : s.heap.get? f = some fo) (hfd : fo.data = .func fd)
    (h : Q true s) : wpAny M A (borrowsExactly (.ref b)) Q E s := by
  unfold borrowsExactly
  refine wpAny_bind (wpAny_load hb ?_)
  dsimp only
  rw [if_pos (by rfl)]
  show wpAny M A (load f >>= _) _ _ _
  refine wpAny_bind (wpAny_load hf ?_)
  rw [hfd]
  exact wpAny_pure h
/-- one turn of the iterator: the method is called; an empty text ends it -/
theorem next_ci {I b f x : Addr} {t : Tok} {fo : Obj} {fd : FuncData} {Q : Option Value → Shared → Prop} (hh : A.handled = none)
    (hI : s.heap.get? I = some (ciObj b t)) (hb : s.heap.get? b = some (methodObj (.ref f) (.ref x))) (hf : s.heap.get? f = some fo) (hfd : fo.data = .func fd)
    (hc : codeAny (model prog w) A.in1 (.call (.ref f) ⟨[.ref x], []⟩) (fun r s' => match r with
      | .ok (.ret v) => ∃ c t', v = .str c t' ∧ s'.heap.get? I = some (ciObj b t) ∧ s'.heap.get? b = some (methodObj (.ref f) (.ref x)) ∧ s'.heap.get? f = some fo ∧
          ((c ≠ Str.ofString "" ∧ Q (some v) s') ∨ (c = Str.ofString "" ∧ ∀ h', Heap.ExtBut I s'.heap h' → Q none { s' with heap := h' }))
      | .ok _ => False | .error e => False) s) :
    wpAny (model prog w) A (pyNext (.ref I)) Q E s := by
  have hT : s.TypeIs (.ref I) "callable_iterator" := ⟨_, hI, rfl⟩
  unfold pyNext
  refine wpAny_bind (wpAny_attempt (wpAny_callSpecial?_slot (name := Str.ofString "__next__") hT slot_ci_next
    (wpAny_call_entry slot_ci_next hT entry_ci_next ?_ (args_ci_next _))))
  unfold Builtin.«callable_iterator.__next__»
  refine wpAny_bind (wpAny_of_eq (a := (Value.ref I, [])) rfl ?_)
  try dsimp only
  refine wpAny_bind (wpAny_field hI rfl (x := .bool false) rfl ?_)
  rw [if_neg (by decide)]
  try dsimp only
  refine wpAny_bind (wpAny_field hI rfl (x := .ref b) rfl ?_)
  refine wpAny_bind (wpAny_attempt ?_)
  unfold callOutOfASlot
  refine wpAny_bind (wpAny_borrows hb hf hfd ?_)
  rw [if_pos rfl]
  refine wpAny_callBorrowed ?_
  refine method_call hb (codeAny_mono hc fun r s' hr => ?_)
  cases r with
  | error e => exact hr.elim
  | ok fl =>
    cases fl with
    | ret v => 
      obtain ⟨c, t', rfl, hI', hb', hf', hcase⟩ := hr
      dsimp only
      refine wpAny_bind (wpAny_field hI' rfl (x := .bool false) rfl ?_)
      rw [if_neg (by decide)]
      try dsimp only
      refine wpAny_bind (wpAny_field hI' rfl (x := .str (Str.ofString "") t) rfl ?_)
      refine wpAny_bind (wpAny_holding (wpAny_eqBool_str ?_))
      rcases hcase with ⟨hne, hq⟩ | ⟨rfl, hq⟩
      · rw [decide_eq_false (fun e => hne e.symm)]
        first
        | exact wpAny_bind (wpAny_pure ⟨_, rfl, wpAny_pure hq⟩)
        | exact wpAny_pure ⟨_, rfl, wpAny_pure hq⟩
        | trace_state
      · rw [decide_eq_true rfl]
        refine wpAny_bind (wpAny_rule ?_)
        refine wpAny_bind ?_
        show wpAny _ _ (field (.ref I) 0 >>= _) _ _ _
        refine wpAny_bind (wpAny_field hI' rfl (x := .ref b) rfl ?_)
        refine wpAny_bind ?_
        unfold slotLetsGo
        dsimp only
        refine wpAny_bind (wpAny_borrows hb' hf' hfd ?_)
        rw [if_pos rfl]
        try dsimp only
        refine wpAny_pure ?_
        try dsimp only
        refine wpAny_bind (wpAny_setField_rec hI' (by simp) fun h₁ e₁ k₁ => ?_)
        refine wpAny_bind (wpAny_setField_rec e₁ (by simp) fun h₂ e₂ k₂ => ?_)
        refine wpAny_setField_rec e₂ (by simp) fun h₃ e₃ k₃ => ?_
        show wpAny _ _ (newExc (.type "StopIteration") [] >>= _) _ _ _
        refine wpAny_bind ?_
        simp only [newExc, newTuple]
        refine wpAny_bind (wpAny_newObj_type ?_ (by size_fits))
        refine wpAny_bind (m := firstArgMember _ _) (wpAny_of_eq (a := Value.none) (by first | rfl | (simp only [firstArgMember]; rfl)) ?_)
        refine wpAny_newObj_type ?_ (by size_fits)
        simp only [raiseNew]
        refine wpAny_bind (wpAny_handled ?_)
        first | rw [show A.in1.handled = none from hh] | rw [hh]
        refine wpAny_bind (wpAny_pure (wpAny_throw ?_))
        refine wpAny_bind (wpAny_isInstance (T := "StopIteration") (b := true) ⟨_, Heap.get?_push_size _ rfl, rfl⟩ isSubtype_stop ?_)
        exact wpAny_pure (hq _ ((((k₁.extBut.trans k₂.extBut).trans k₃.extBut).push _).push _))
    | _ => exact hr.elim
theorem wpAny_pyIter_ci {I b : Addr} {t : Tok} {Q : Value → Shared → Prop} (hI : s.heap.get? I = some (ciObj b t)) (h : Q (.ref I) s) : wpAny (model prog w) A (pyIter (.ref I)) Q E s := by
  have hT : s.TypeIs (.ref I) "callable_iterator" := ⟨_, hI, rfl⟩
  refine wpAny_pyIter_slot hT slot_ci_iter (wpAny_call_entry slot_ci_iter hT entry_ci_iter ?_ (args_ci_iter _))
  show wpAny _ _ (ret (.ref I)) _ _ s
  exact wpAny_pure ⟨_, rfl, "callable_iterator", _, hT, slot_ci_next.lookup, h⟩
end
end
section
open PySem PySem.W PyProof.Rows
open PySem.Builtin PySem.Builtin.Str
set_option maxRecDepth 100000
set_option maxHeartbeats 8000000

/-- as Ct, of the call's code itself -/
noncomputable def CtC (k : Nat) (w : World) (mean : ExcName → Option Value) (mg mb : Str → Option Value) (f : Addr) (news : List (Addr × Obj)) (vs : List Value)
    (post : Value → List (Addr × Obj) → Array GenState → Array GenState → Prop) : Prop :=
  ∀ (dp un : Nat) (gd : Option (List Code)) (cn : Str) (cs : Scope) (a : Addr) (ccd : Value) (cl : List (Str × Addr)) (outer : List Env) (A₀ : Around) (base h₀ : Heap) (L : Addr) (m : Str → Option Value) (s : Shared) (Q E : Value → Shared → Prop),
    Below A₀ base outer h₀ → Fr h₀ L s.heap m → (Mine.hd.heap_39 w.params).In h₀ → News h₀ L s.heap news → Top topProg LLo mean mg mb h₀ → cs.kind = .function → dp + k < recursionLimit → un + 8 * k < cLine →
    (∀ v news' h' tk' g', post v news' s.gens g' → Fr h₀ L h' m → News h₀ L h' news' → Q v { s with heap := h', toks := tk', gens := g' }) →
    codeAny (model PySem.Challenge.rw_re0036_01.row.prog w) (ktrTop dp un gd cn cs L a ccd cl outer) (.call (.ref f) ⟨vs, []⟩) (fun r s' => match r with | .ok (.ret v) => Q v s' | .ok _ => False | .error e => E e s') s
section
variable {k : Nat} {w : World} {mean : ExcName → Option Value} {mg mb : Str → Option Value} {f : Addr} {news : List (Addr × Obj)} {vs : List Value} {post : Value → List (Addr × Obj) → Array GenState → Array GenState → Prop}
theorem CtC.ct (C : CtC k w mean mg mb f news vs post) : Ct k w mean mg mb f news vs post :=
  fun _ _ _ _ _ _ _ _ _ _ _ _ _ _ _ _ _ B F X N T hk hd hu ret => wpAny_call (C _ _ _ _ _ _ _ _ _ _ _ _ _ _ _ _ _ B F X N T hk hd hu ret)
end
theorem fnAt_of {h : Heap} {q : Addr} {o : Obj} {fd : FuncData} (e : h.get? q = some o) (hd : o.data = .func fd) : FnAt q h := by
  cases o
  cases hd
  exact ⟨_, _, _, _, e⟩
end
section
open PySem PySem.W PyProof.Rows
open PySem.Builtin PySem.Builtin.Str
set_option maxRecDepth 100000
set_option maxHeartbeats 8000000

/-! a loop over an iterator whose turns read texts from the ledger -/
section
variable {prog : Program} {w : World} {A : Around} {s : Shared} {env : Env} {h₀ : Heap} {E : Value → Shared → Prop}
/-- what a turn of the iterator at I does to the ledger -/
noncomputable def ReadsI (prog : Program) (w : World) (A : Around) (h₀ : Heap) (L : Addr) (I : Addr) (s₀ : Shared) (LS : List Str → List (Addr × Obj) → Prop) (LE : List (Addr × Obj) → Prop) : Prop :=
  ∀ (xs : List Str) (news : List (Addr × Obj)) (m : Str → Option Value) (h : Heap) (tk : Nat) (Q : Option Value → Shared → Prop) (E : Value → Shared → Prop), LS xs news → Fr h₀ L h m → News h₀ L h news →
    (xs = [] → ∀ news' h' tk', LE news' → Fr h₀ L h' m → News h₀ L h' news' → Q none { s₀ with heap := h', toks := tk' }) →
    (∀ c r t news' h' tk', xs = c :: r → LS r news' → Fr h₀ L h' m → News h₀ L h' news' → Q (some (.str c t)) { s₀ with heap := h', toks := tk' }) →
    wpAny (model prog w) A (pyNext (.ref I)) Q E { s₀ with heap := h, toks := tk }
inductive TurnRI (h₀ : Heap) (L : Addr) (g : Array GenState) (dr : Drawn) (os : OsState) (LS : List Str → List (Addr × Obj) → Prop) (J : List Str → (Str → Option Value) → Prop) (k : Nat) (s' : Shared) : Prop
  | mk (r' : List Str) (m' : Str → Option Value) (news' : List (Addr × Obj)) (h' : Heap) (tk' : Nat) (e : s' = ⟨h', g, dr, tk', os⟩) (hk : r'.length ≤ k) (hL : LS r' news') (hJ : J r' m') (F : Fr h₀ L h' m') (N : News h₀ L h' news') : TurnRI h₀ L g dr os LS J k s'
noncomputable def TurnR (h₀ : Heap) (L : Addr) (s₀ : Shared) (LS : List Str → List (Addr × Obj) → Prop) (J : List Str → (Str → Option Value) → Prop) (k : Nat) (s' : Shared) : Prop := TurnRI h₀ L s₀.gens s₀.drawn s₀.os LS J k s'
noncomputable def BodyR (h₀ : Heap) (L : Addr) (s₀ : Shared) (LS : List Str → List (Addr × Obj) → Prop) (J : List Str → (Str → Option Value) → Prop) (k : Nat) (Q : Flow → Shared → Prop) (f : Flow) (s' : Shared) : Prop := match f with
  | .next | .cont => TurnR h₀ L s₀ LS J k s'
  | .brk => Q .next s'
  | .ret v => Q (.ret v) s'
inductive ForRI (LS : List Str → List (Addr × Obj) → Prop) (J : List Str → (Str → Option Value) → Prop) (h₀ : Heap) (L : Addr) (s : Shared) (k : Nat) (s' : Shared) : Prop
  | mk (h' : Heap) (tk : Nat) (m' : Str → Option Value) (news' : List (Addr × Obj)) (xs' : List Str) (e : s' = { s with heap := h', toks := tk }) (hL : LS xs' news') (hJ : J xs' m') (F : Fr h₀ L h' m') (N : News h₀ L h' news') (hk : k = xs'.length) : ForRI LS J h₀ L s k s'
theorem forR {Q : Flow → Shared → Prop} {x : Str} {px : Pos} {body : List Stmt} {I : Addr} {LS : List Str → List (Addr × Obj) → Prop} {LE : List (Addr × Obj) → Prop} {J : List Str → (Str → Option Value) → Prop}
    {xs : List Str} {m : Str → Option Value} {news : List (Addr × Obj)} (hx : env.kindOf x = some .local)
    (hp : (env.scope.kind == .class || (env.scope.kind == .module && env.locals != env.globals)) = false)
    (hr : ReadsI prog w A h₀ env.locals I s LS LE) (hL : LS xs news) (F : Fr h₀ env.locals s.heap m) (N : News h₀ env.locals s.heap news) (hJ : J xs m)
    (step : ∀ c r t m₁ news₁ h tk, J (c :: r) m₁ → LS r news₁ → Fr h₀ env.locals h (fun y => if y = x then some (.str c t) else m₁ y) → News h₀ env.locals h news₁ →
      wpAny (model prog w) A (execs body env) (BodyR h₀ env.locals s LS J r.length Q) E { s with heap := h, toks := tk })
    (done : ∀ m' news' h' tk', J [] m' → LE news' → Fr h₀ env.locals h' m' → News h₀ env.locals h' news' → Q .next { s with heap := h', toks := tk' })
    (hE : PassesOwn (model prog w) A env E) :
    codeAny (model prog w) A (.forLoop (.Name x px) (.ref I) body [] env) (fun r s' => match r with | .ok f => Q f s' | .error e => cameBackBy (model prog w) A env E e s') s := by
  refine codeAny_forLoop
    (ForRI LS J h₀ env.locals s) ?_ xs.length
    ⟨s.heap, s.toks, m, news, xs, rfl, hL, hJ, F, N, rfl⟩
  rintro k s' ⟨h', tk, m', news', xs', rfl, hL', hJ', F', N', rfl⟩
  refine hr xs' news' m' h' tk _ _ hL' F' N' (fun he news₁ h₁ tk₁ hLE F₁ N₁ => ?_) fun c r t news₁ h₁ tk₁ he hL₁ F₁ N₁ => ?_
  · subst he
    exact wpAny_execs_nil (done m' news₁ h₁ tk₁ hJ' hLE F₁ N₁)
  · subst he
    refine wpAny_assign_Name (wpAny_storeName_local hx F₁.ns (fun h₂ hn₂ hs₂ => ?_) hp)
    have F₂ := F₁.set hn₂ hs₂
    refine wpAny_passesOwn hE (wpAny_mono (step c r t m' news₁ h₂ _ hJ' hL₁ F₂ (N₁.set hs₂)) (fun f s₃ h₃ => ?_) fun _ _ q => q)
    have fin : TurnR h₀ env.locals s LS J r.length s₃ → ∃ k', k' < (c :: r).length ∧ ForRI LS J h₀ env.locals s k' s₃ := by
      rintro ⟨r', m₂, news₂, h₃', tk₃, rfl, hle, a, b, F₃, N₃⟩
      exact ⟨r'.length, by rw [List.length_cons]; omega, h₃', tk₃, m₂, news₂, r', rfl, a, b, F₃, N₃, rfl⟩
    cases f with
    | ret v => exact h₃
    | brk => exact h₃
    | cont => exact fin h₃
    | next => exact fin h₃
noncomputable def LoopR (prog : Program) (w : World) (A : Around) (env : Env) (x : Str) (px : Pos) (body : List Stmt) (Q : Flow → Shared → Prop) (E : Value → Shared → Prop) (it : Value) (s₂ : Shared) : Prop :=
  ∃ I, it = .ref I ∧ codeAny (model prog w) A (.forLoop (.Name x px) (.ref I) body [] env) (fun r s' => match r with | .ok f => Q f s' | .error e => cameBackBy (model prog w) A env E e s') s₂
theorem For_R {Q : Flow → Shared → Prop} {x : Str} {px pos : Pos} {iter : Expr} {body : List Stmt}
    (h : wpAny (model prog w) A (eval iter env) (fun xv s₁ => wpAny (model prog w) A (pyIter xv) (fun it s₂ => LoopR prog w A env x px body Q E it s₂) E s₁) E s)
    (hs : ∀ x, foldedSetIterable iter env x = pure x := by intro _; rfl) :
    wpAny (model prog w) A (exec (.For (.Name x px) iter body [] pos) env) Q E s := by
  refine wpAny_For (wpAny_mono h (fun xv s₁ h₁ => wpAny_mono h₁ (fun it s₂ h₂ => ?_) fun _ _ e => e) fun _ _ e => e) hs
  obtain ⟨I, rfl, G⟩ := h₂
  exact G
/-- the loop, from where the walk meets the iterator -/
theorem iter_R {Q : Flow → Shared → Prop} {x : Str} {px : Pos} {body : List Stmt} {I b : Addr} {ti : Tok} {LS : List Str → List (Addr × Obj) → Prop} {LE : List (Addr × Obj) → Prop} {xs : List Str} {m : Str → Option Value} {news : List (Addr × Obj)}
    (J : List Str → (Str → Option Value) → Prop)
    (hx : env.kindOf x = some .local) (hp : (env.scope.kind == .class || (env.scope.kind == .module && env.locals != env.globals)) = false)
    (hI : (I, ciObj b ti) ∈ news)
    (hr : ReadsI prog w A h₀ env.locals I s LS LE) (hL : LS xs news) (F : Fr h₀ env.locals s.heap m) (N : News h₀ env.locals s.heap news) (hJ : J xs m)
    (step : ∀ c r t m₁ news₁ h tk, J (c :: r) m₁ → LS r news₁ → Fr h₀ env.locals h (fun y => if y = x then some (.str c t) else m₁ y) → News h₀ env.locals h news₁ →
      wpAny (model prog w) A (execs body env) (BodyR h₀ env.locals s LS J r.length Q) E { s with heap := h, toks := tk })
    (done : ∀ m' news' h' tk', J [] m' → LE news' → Fr h₀ env.locals h' m' → News h₀ env.locals h' news' → Q .next { s with heap := h', toks := tk' })
    (hE : PassesOwn (model prog w) A env E := by passes_own) :
    wpAny (model prog w) A (pyIter (.ref I)) (fun it s₂ => LoopR prog w A env x px body Q E it s₂) E s :=
  wpAny_pyIter_ci (N _ hI).1 ⟨I, rfl, forR hx hp hr hL F N hJ step done hE⟩
theorem ReadsI.at {L I : Addr} {LS : List Str → List (Addr × Obj) → Prop} {LE : List (Addr × Obj) → Prop} {h : Heap} {tk : Nat} (hr : ReadsI prog w A h₀ L I s LS LE) : ReadsI prog w A h₀ L I { s with heap := h, toks := tk } LS LE := hr
end
end
section
open PySem PySem.W PyProof.Rows
open PySem.Builtin PySem.Builtin.Str
set_option maxRecDepth 100000
set_option maxHeartbeats 8000000


local macro_rules | `(tactic| walk_at "my leave2") => `(tactic| ((refine' leaveK_ ?k1 ?k2 ?_; (case k1 => k_asm); (case k2 => k_asm)); intro kF kN; (try dsimp only); (try (refine handed_on rfl ?_; try dsimp only))))
local macro_rules | `(tactic| walk_at "call type:list") => `(tactic| (k_dflt (refine' list_str_led ?lz ?lh ?lF ?lN ?_; (case lz => omega); (case lh => exact rfl); (case lF => k_asm); (case lN => k_asm); intro D' ys' k' h' tk' F' N' hys l1; (try k_lt l1))))

theorem lexer_ct (w : World) (mean : ExcName → Option Value) (mg mb : Str → Option Value) (news : List (Addr × Obj)) (text : Str) (t : Tok) (hw : text.length ≤ 1000) (hn79 : ∀ p ∈ news, p.1 ≠ 79) :
   CtP 8 w mean mg mb (fun h => CodeHd h 83 79) 84 ((79, tabObj #[]) :: news) [.str text t] (LxPost w mean mg mb text news) := by
  w_top on
  w_on
  unfold CtP
  k_fill
  intro dp un gd cn cs a ccd cl outer A₀ base h₀ L m s Q E hP hB hF hX hN hT hK hDp hUn hret
  replace hP : CodeHd h₀ 83 79 := hP
  walk_at "my enter"
  rename Fr _ _ _ _ => FF
  have FN := reframe (m' := fun y => if y = Str.ofString "text" then some (.str text t) else none) FF (by with_unfolding_all rfl)
  clear FF hF hN
  rename Fr h₀ L _ m => FG
  have hC := CodeHd.keeps hP FG.keep
  k_steps
  rename Fr _ _ _ _ => F0
  rename News _ _ _ _ => N0
  have hlt0 := led_lt (news := news) (o := tabObj #[]) (by assumption)
  refine' setAttr_led3 F0 N0 ?ha ?hb ?hne rfl rfl rfl ?_
  case ha => exact neN (by dsimp only; lia  )
  case hb => exact neN (by dsimp only; lia  )
  case hne =>
    intro p hp
    rcases List.mem_cons.mp hp with rfl | hp
    · exact neN (by dsimp only; lia  )
    · rcases List.mem_cons.mp hp with rfl | hp
      · exact neN (by dsimp only; lia  )
      · rcases List.mem_cons.mp hp with rfl | hp
        · exact neN (by dsimp only; lia  )
        rcases List.mem_cons.mp hp with rfl | hp
        · exact neN (by dsimp only; lia  )
        · have : LT.lt (α := Nat) p.1 _ := hlt0 p (.tail _ hp)
          exact neN (by lia  )
  intro h1' tk1' dx od1 F' N' hod l1
  clear F0 N0
  simp only [List.cons_append, List.nil_append] at N'
  k_lt l1
  k_steps
  refine' call_cls ?k1 ?k2 ?k3 ?k4 ?k5 ?k6 ?_
  case k1 => k_asm
  case k2 => k_asm
  case k3 => k_asm
  case k4 => k_is
  case k5 => k_is
  case k6 => k_is
  intro x' d' h' F' N' l1 l2
  (try k_lt l1)
  (try k_lt2 l2)
  refine' code_def ?k1 ?k2 ?k3 ?k4 ?k5 ?kA ?kF ?kK ?k6 ?k7 ?k8 ?k9 ?kB ?_ ?c2 ?c3 ?c4 ?c5
  case kA => exact rfl
  case kF => exact rfl
  case kK => exact rfl
  case k1 => k_asm
  case k2 => k_asm
  case k3 => k_asm
  case k4 => k_asm
  case k5 => k_asm
  case k6 => k_is
  case k7 => k_is
  case k8 => (simp only [depth_under_make, depth_in1, depth_deeper]; (try dsimp only [ktrTop]); lia  )
  case k9 => exact BindsTo.of_eq rfl
  case c5 => decide
  case kB => exact locs rfl
  case c2 => exact rfl
  case c3 => exact rfl
  case c4 => exact rfl
  intro g' L' h' FG' F' N' B' X' T'
  k_steps
  walk_at "my leave"
  unfold InitBack
  dsimp only
  refine ⟨rfl, ?_⟩
  walk_at "my leave2"
  refine' lx_intro hret ?lF ?lN ?hys ?hod ?hc ?hd ?hfd ?read ?lts
  case lF => k_asm
  case lN => k_asm
  case hys => assumption
  case hod => assumption
  case hc => exact rfl
  case hd => exact rfl
  case hfd => exact ⟨_, rfl⟩
  case lts => exact ⟨allLt_of fun p hp => Nat.lt_succ_of_lt (hlt0 p (.tail _ hp)), by lia  , by lia  , by lia  , by lia  , by lia  , by lia  , by lia  , by lia  ⟩
  case read =>
    rename _ = Data.cell (some (Value.ref _)) => dC
    rename _ = Data.fields _ => dF
    rename _ = some (Value.str _ _) => dQ
    refine ⟨⟨_, rfl⟩, ?_⟩
    intro ys xs kk t9 nws hy hx1 hx2 hne9
    unfold Ct
    intro dp2 un2 gd2 cn2 cs2 a2 ccd2 cl2 outer2 A₂ base2 h₂ L₂ m₂ s₂ Q₂ E₂ B F X N T hK2 hd2 hu2 hret2
    refine wpAny_call ?_
    refine' kla_code B F X N T ?hA ?hf ?hke (.tail _ (.head _)) ?hcd ?room ?bind ?loc ?_ ?c1 ?c2 ?c3 ?c4
    case hA => exact rfl
    case hf => exact rfl
    case hke => assumption
    case hcd => exact codeRec_news N (.tail _ (.tail _ (.head _))) dF dQ
    case room => dsimp only [ktrTop]; lia  
    case bind => exact rfl
    case loc => exact locs rfl
    case c1 => exact rfl
    case c2 => exact rfl
    case c3 => exact rfl
    case c4 => decide
    intro g3 L3 h3 FG3 F3 N3 B3 X3 T3
    clear F N B X T
    have hyl : ys.length = xs.length := hy.len_eq
    rcases xs with _ | ⟨c, rs⟩
    · cases hy
      dsimp only
      k_steps
      rename IsRange _ _ _ _ _ _ _ _ => hr3
      rename Fr _ _ _ _ => F1
      rename News _ _ _ _ => N1
      refine' citer_range (n := 0) (fun _ _ => true) (fun i ys' news' g => g = _ ∧ news' = _ ∧ ys' = []) rfl hr3 (by decide +kernel) (by decide +kernel) F1 N1 (by lia  ) ⟨rfl, rfl, rfl⟩ ?skip ?tests ?elt ?done
      case skip => intro i t ys news₁ g q; exact absurd q (Nat.not_lt_zero _)
      case tests => intro C D I i tv ys news₁ h tk g own mC _ _ _ q; exact absurd q (Nat.not_lt_zero _)
      case elt => intro C D I i tv ys news₁ h tk g own mC _ _ _ q; exact absurd q (Nat.not_lt_zero _)
      case done =>
        rintro D h' tk g news' ys kd hD F N hoff ⟨rfl, rfl, rfl⟩
        dsimp only
        k_steps
        walk_at "my leave"
        exact hret2 _ _ _ _ _ ⟨rfl, fun _ => ⟨⟨_, congrArg (Value.str · _) (by decide +kernel)⟩, rfl⟩, fun c r q => nomatch q⟩ (by k_asm) (news_sub (by k_asm) (by walk_at "my sub"))
    · obtain ⟨tc, wr, rfl, hr⟩ := strsAre_head hy
      have hc1 := hx1
      rw [List.length_cons] at hc1
      have hcl := hx2 c (.head _)
      rw [List.length_cons, List.length_cons] at hyl
      dsimp only
      k_steps
      rename IsRange _ _ _ _ _ _ _ _ => hr3
      rename Fr _ _ _ _ => F1
      rename News _ _ _ _ => N1
      have hne5 := hne9
      refine' citer_range (n := 1) (fun _ _ => true) (fun i ys' news' g => g = _ ∧ ∃ n0, n0 = _ ∧ (i = 0 → ys' = [] ∧ news' = n0) ∧ (i = 1 → ys' = [.str c tc] ∧ ∃ k', news' = popHead n0 wr k')) rfl hr3 (range_size (by rw [if_neg (by simp only [List.length_cons]; lia  )]; rfl)) (by rw [if_neg (by simp only [List.length_cons]; lia  )]; decide +kernel) F1 N1 (by lia  ) ⟨rfl, _, rfl, fun _ => ⟨rfl, rfl⟩, fun q => absurd q (by decide)⟩ ?skip ?tests ?elt ?done
      case skip => intro i t ys news₁ g _ q; exact absurd q (by decide)
      case tests => intro C D I i tv ys news₁ h tk g own mC _ _ _ _ _ _ _ F N _ _ E'; exact wpAny_pure ⟨rfl, _, _, rfl, F, N⟩
      case elt =>
        rintro C D I3 i tv ys' news₁ h tk g own mC hC hD hI3 hi _ ⟨rfl, n0, rfl, hJ0, _⟩ hoff hown F N hn hmC E'
        obtain rfl : i = 0 := by lia  
        obtain ⟨rfl, rfl⟩ := hJ0 rfl
        have cE := InElt.start h
        clear hr3 hJ0
        simp only [List.cons_append] at N
        dsimp only
        k_steps
        refine' pop_led (by k_asm) (by k_asm) (read_ne hne9 hown (fun q => hoff (_, _) (.head _) q)) (by lia  ) ?_
        intro h5 k5 F5 N5
        exact ⟨_, _, _, _, rfl, F5, assoc4 N5, popHead_off (vs := wr) (k := k5) hoff, rfl, _, rfl, fun q => absurd q (by decide), fun _ => ⟨rfl, k5, rfl⟩⟩
      case done =>
        rintro D h' tk g news' ys' kd hD F N hoff ⟨rfl, n0, rfl, _, hJ1⟩
        obtain ⟨rfl, k', rfl⟩ := hJ1 rfl
        simp only [popHead] at N
        clear hr3 hJ1
        dsimp only
        k_steps
        walk_at "my leave"
        refine hret2 _ _ _ _ _ ⟨rfl, fun q => (nomatch q), fun c' r' q => ?pp⟩ (by k_asm) (news_sub (by k_asm) (fun p hp => List.Mem.tail _ hp))
        obtain ⟨rfl, rfl⟩ := List.cons.inj q
        exact ⟨⟨_, congrArg (Value.str · _) (join_one c)⟩, wr, _, hr, rfl⟩
end
section
open PySem PySem.W PyProof.Rows
open PySem.Builtin PySem.Builtin.Str
set_option maxRecDepth 100000
set_option maxHeartbeats 8000000



local macro_rules | `(tactic| walk_at "getMethod ref") => `(tactic| (refine stop_here ?_))
local macro_rules | `(tactic| walk_at "call ref") => `(tactic| (refine stop_here ?_))
local macro_rules | `(tactic| walk_at "my enterD") => `(tactic| (first | k_dflt cell_enter | k_dflt (walk_at "my enterC") | fail "not entered"))

theorem rc_ctc (w : World) (mean : ExcName → Option Value) (mg mb : Str → Option Value) (news : List (Addr × Obj)) (x dx pb st ds rd cc cell lf : Addr) (k1 k2 k3 k4 tl tw : Tok) (ln : Int) (n kl : Nat) (ys : List Value) (xs : List Str) (ods ost ord occ ocell : Obj) (hy : StrsAre ys xs) (hx1 : xs.length ≤ 1000) (hx2 : ∀ x ∈ xs, x.length = 1) (hod : DictIs ods (fun y => if y = Str.ofString "read" then some (.ref rd) else none)) (hc : ost.cls = .type "function") (hd : ost.dict = some ds) (hfd : ∃ fd, ost.data = .func fd) (hr : ReadOk w mean mg mb rd ord cc occ cell ocell lf)
   (hlf : ∀ p ∈ (x, instObj 66 dx) :: (rd, ord) :: (cc, occ) :: (cell, ocell) :: (ds, ods) :: (st, ost) :: news, p.1 ≠ lf) (hdl : dx ≠ lf) (hdx : ∀ p ∈ (x, instObj 66 dx) :: (rd, ord) :: (cc, occ) :: (cell, ocell) :: (ds, ods) :: (st, ost) :: news, p.1 ≠ dx) :
   CtC 12 w mean mg mb 49 ((x, instObj 66 dx) :: (dx, dictOf (lxE w k1 k2 k3 k4 tl tw ln st pb) n) :: (lf, W.listOf ys.toArray kl) :: (rd, ord) :: (cc, occ) :: (cell, ocell) :: (ds, ods) :: (st, ost) :: news) [.ref x] (fun v news' g g' => g' = g ∧ (xs = [] → (∃ t, v = .str (Str.ofString "") t) ∧ news' = (x, instObj 66 dx) :: (dx, dictOf (lxE w k1 k2 k3 k4 tl tw ln st pb) n) :: (lf, W.listOf ys.toArray kl) :: (rd, ord) :: (cc, occ) :: (cell, ocell) :: (ds, ods) :: (st, ost) :: news) ∧ ∀ c r, xs = c :: r → (∃ t, v = .str c t) ∧ ∃ ys' kl' tl' n', StrsAre ys' r ∧ news' = (x, instObj 66 dx) :: (dx, dictOf (lxE w k1 k2 k3 k4 tl' tw (ln + (if c = Str.ofString (String.singleton (Char.ofNat 10)) then 1 else 0)) st pb) n') :: (lf, W.listOf ys'.toArray kl') :: (rd, ord) :: (cc, occ) :: (cell, ocell) :: (ds, ods) :: (st, ost) :: news) := by
  w_top on
  w_on
  unfold CtC
  k_fill
  intro dp un gd cn cs a ccd cl outer A₀ base h₀ L m s Q E hB hF hX hN hT hK hDp hUn hret
  walk_at "my enterD"
  clear hF hN

  k_steps
  unfold Stop
  rename Fr _ _ _ _ => F0
  rename News _ _ _ _ => N0
  obtain ⟨fd, hfd⟩ := hfd
  obtain ⟨⟨fr, hfr⟩, hr⟩ := hr
  refine' getMethod_fn (N0 (st, ost) ?m1).1 hc hd hfd (hod.ns (N0 (ds, ods) ?m2).1) (if_pos rfl) rfl ?_
  case m1 => k_mem
  case m2 => k_mem
  intro tk'
  dsimp only
  refine' callWith_F ?k1 ?_
  case k1 => exact fnAt_of (N0 (rd, ord) (by k_mem)).1 hfr
  k_steps
  · exact fnAt_of (N0 (rd, ord) (by k_mem)).1 hfr
  unfold Stop
  have N1 : News _ _ _ ((lf, W.listOf ys.toArray kl) :: (rd, ord) :: (cc, occ) :: (cell, ocell) :: (x, instObj 66 dx) :: (dx, dictOf (lxE w k1 k2 k3 k4 tl tw ln st pb) n) :: (ds, ods) :: (st, ost) :: news) := news_sub N0 (by walk_at "my sub")
  have hne9 : ∀ p ∈ (rd, ord) :: (cc, occ) :: (cell, ocell) :: (x, instObj 66 dx) :: (dx, dictOf (lxE w k1 k2 k3 k4 tl tw ln st pb) n) :: (ds, ods) :: (st, ost) :: news, p.1 ≠ lf := by
    intro p hp
    simp only [List.mem_cons] at hp
    have hq : p = (dx, dictOf (lxE w k1 k2 k3 k4 tl tw ln st pb) n) ∨ p ∈ (x, instObj 66 dx) :: (rd, ord) :: (cc, occ) :: (cell, ocell) :: (ds, ods) :: (st, ost) :: news := by
      simp only [List.mem_cons]
      grind
    rcases hq with rfl | hq
    · exact hdl
    · exact hlf p hq
  clear N0
  dsimp only [List.nil_append]
  refine' Ct.use (hr ys xs kl _ _ hy hx1 hx2 hne9) ?B ?F ?X ?N ?T ?K ?d ?u ?_
  walk_at "my uses"
  rintro v' n' h' tk' g' ⟨rfl, he, hne⟩ F' N'
  clear F0 N1
  rcases xs with _ | ⟨c, r⟩
  · obtain ⟨⟨t, rfl⟩, rfl⟩ := he rfl
    clear he hne
    dsimp only
    k_steps
    walk_at "my leave"
    exact hret _ _ _ _ _ ⟨rfl, fun _ => ⟨⟨_, rfl⟩, rfl⟩, fun c r q => (nomatch q)⟩ (by k_asm) (news_sub (by k_asm) (by walk_at "my sub"))
  · obtain ⟨⟨t, rfl⟩, ys', kl', hy', rfl⟩ := hne c r rfl
    have hcl := hx2 c (.head _)
    clear he hne
    dsimp only
    have hdx' : ∀ p ∈ (lf, W.listOf ys'.toArray kl') :: (x, instObj 66 dx) :: (rd, ord) :: (cc, occ) :: (cell, ocell) :: (ds, ods) :: (st, ost) :: news, p.1 ≠ dx := by
      intro p hp
      rcases List.mem_cons.mp hp with rfl | hp
      · exact Ne.symm hdl
      · exact hdx p hp
    have N2 : News _ _ _ ((dx, dictOf (lxE w k1 k2 k3 k4 tl tw ln st pb) n) :: (lf, W.listOf ys'.toArray kl') :: (x, instObj 66 dx) :: (rd, ord) :: (cc, occ) :: (cell, ocell) :: (ds, ods) :: (st, ost) :: news) := news_sub N' (by walk_at "my sub")
    clear N'
    k_steps
    · refine' set_dict (es' := lxE w k1 k2 k3 k4 _ tw (ln + 1) st pb) (n' := n) ?k1 ?k2 ?k3 ?k4 ?k5 ?k6 ?k7 ?k8 ?k9 ?k10 ?k11 ?k12 ?k13 ?_
      case k1 => k_asm
      case k2 => k_asm
      case k3 => k_asm
      case k4 => k_inst
      case k5 => exact rfl
      case k6 => k_is
      case k7 => k_is
      case k8 => k_is
      case k9 => k_is
      case k10 => k_get
      case k11 => with_unfolding_all rfl
      case k12 => k_upd
      case k13 => exact Nat.le_of_ble_eq_true rfl
      intro h' F' N'
      dsimp only
      k_steps
      walk_at "my leave"
      rename (c == _) = true => hcn
      have key : ∀ (t9 : Tok) (g9 h9 : Heap) (L9 : Addr), News g9 L9 h9 ((dx, dictOf (lxE w k1 k2 k3 k4 t9 tw (ln + 1) st pb) n) :: (lf, W.listOf ys'.toArray kl') :: (x, instObj 66 dx) :: (rd, ord) :: (cc, occ) :: (cell, ocell) :: (ds, ods) :: (st, ost) :: news) → News g9 L9 h9 ((x, instObj 66 dx) :: (dx, dictOf (lxE w k1 k2 k3 k4 t9 tw (ln + 1) st pb) n) :: (lf, W.listOf ys'.toArray kl') :: (rd, ord) :: (cc, occ) :: (cell, ocell) :: (ds, ods) :: (st, ost) :: news) := fun t9 g9 h9 L9 N9 => news_sub N9 (by walk_at "my sub")
      rename News _ _ _ _ => NK
      refine hret _ _ _ _ _ ⟨rfl, fun q => (nomatch q), fun c' r' q => ?pp⟩ (by k_asm) (key _ _ _ _ NK)
      obtain ⟨rfl, rfl⟩ := List.cons.inj q
      exact ⟨⟨_, rfl⟩, ys', kl', _, n, hy', by rw [if_pos (by simpa using hcn)]⟩
    · walk_at "my leave"
      rename (c == _) = false => hcn
      refine hret _ ((x, instObj 66 dx) :: (dx, dictOf (lxE w k1 k2 k3 k4 tl tw ln st pb) n) :: (lf, W.listOf ys'.toArray kl') :: (rd, ord) :: (cc, occ) :: (cell, ocell) :: (ds, ods) :: (st, ost) :: news) _ _ _ ⟨rfl, fun q => (nomatch q), fun c' r' q => ?pp2⟩ (by k_asm) (news_sub (by k_asm) (by walk_at "my sub"))
      obtain ⟨rfl, rfl⟩ := List.cons.inj q
      exact ⟨⟨_, rfl⟩, ys', kl', tl, n, hy', by rw [if_neg (by simpa using hcn), Int.add_zero]⟩
end
section
open PySem PySem.W PyProof.Rows
open PySem.Builtin PySem.Builtin.Str
set_option maxRecDepth 100000
set_option maxHeartbeats 8000000

noncomputable def StrsOne (xs : List Str) : Prop := xs.length ≤ 1000 ∧ ∀ x ∈ xs, x.length = 1
noncomputable def nls : List Str → Int
  | [] => 0
  | c :: r => (if c = Str.ofString (String.singleton (Char.ofNat 10)) then 1 else 0) + nls r
/-- the lexer's ledger with the texts xs to read; K: lineno when all is read -/
noncomputable def LXS (w : World) (k1 k2 k3 k4 tw : Tok) (x dx pb st ds rd cc cell lf : Addr) (ods ost ord occ ocell : Obj) (K : Int) (R : List (Addr × Obj)) (xs : List Str) (news : List (Addr × Obj)) : Prop :=
  StrsOne xs ∧ ∃ (tl : Tok) (ln : Int) (n kl : Nat) (ys : List Value), StrsAre ys xs ∧ ln + nls xs = K ∧
    news = (x, instObj 66 dx) :: (dx, dictOf (lxE w k1 k2 k3 k4 tl tw ln st pb) n) :: (lf, W.listOf ys.toArray kl) :: (rd, ord) :: (cc, occ) :: (cell, ocell) :: (ds, ods) :: (st, ost) :: R
theorem fn_at {K : Frag} {f : Addr} {h : Heap} (hf : fnIn K f = true) (X : K.In h) : ∃ fo fd, h.get? f = some fo ∧ fo.data = .func fd := by
  unfold fnIn at hf
  split at hf
  · rename_i e
    exact ⟨_, _, X _ _ e, rfl⟩
  · cases hf
section
variable {w : World} {mean : ExcName → Option Value} {mg mb : Str → Option Value} {k1 k2 k3 k4 tw : Tok} {x dx pb st ds rd cc cell lf : Addr} {ods ost ord occ ocell : Obj} {K : Int} {R : List (Addr × Obj)}
theorem fn49 : fnIn (Mine.hd.heap_39 w.params) 49 = true := by first | kernel_rfl | (w_top on; w_on; k_is) | (w_top on; w_on; k_fill; k_is)
theorem one_ne {c : Str} (h : c.length = 1) : c ≠ Str.ofString "" := fun e => by
  rw [e] at h
  exact absurd h (by decide +kernel)
theorem reads_ci {I b : Addr} {ti : Tok} {s₀ : Shared} {dp un : Nat} {gd : Option (List Code)} {cn : Str} {cs : Scope} {a : Addr} {ccd : Value} {cl : List (Str × Addr)} {outer : List Env} {A₀ : Around} {base h₀ : Heap} {L : Addr}
    (hB : Below A₀ base outer h₀) (hX : (Mine.hd.heap_39 w.params).In h₀) (hT : Top topProg LLo mean mg mb h₀) (hk : cs.kind = .function) (hd' : dp + 12 < recursionLimit) (hu : un + 1 + 8 * 12 < cLine)
    (hod : DictIs ods (fun y => if y = Str.ofString "read" then some (.ref rd) else none)) (hc : ost.cls = .type "function") (hd : ost.dict = some ds) (hfd : ∃ fd, ost.data = .func fd) (hr : ReadOk w mean mg mb rd ord cc occ cell ocell lf)
    (hlf : ∀ p ∈ (x, instObj 66 dx) :: (rd, ord) :: (cc, occ) :: (cell, ocell) :: (ds, ods) :: (st, ost) :: (I, ciObj b ti) :: (b, methodObj (.ref 49) (.ref x)) :: R, p.1 ≠ lf) (hdl : dx ≠ lf)
    (hdx : ∀ p ∈ (x, instObj 66 dx) :: (rd, ord) :: (cc, occ) :: (cell, ocell) :: (ds, ods) :: (st, ost) :: (I, ciObj b ti) :: (b, methodObj (.ref 49) (.ref x)) :: R, p.1 ≠ dx)
    (hI : ∀ p ∈ (x, instObj 66 dx) :: (rd, ord) :: (cc, occ) :: (cell, ocell) :: (ds, ods) :: (st, ost) :: (b, methodObj (.ref 49) (.ref x)) :: R, p.1 ≠ I) :
    ReadsI PySem.Challenge.rw_re0036_01.row.prog w (ktrTop dp un gd cn cs L a ccd cl outer) h₀ L I s₀
      (LXS w k1 k2 k3 k4 tw x dx pb st ds rd cc cell lf ods ost ord occ ocell K ((I, ciObj b ti) :: (b, methodObj (.ref 49) (.ref x)) :: R))
      (LXS w k1 k2 k3 k4 tw x dx pb st ds rd cc cell lf ods ost ord occ ocell K ((b, methodObj (.ref 49) (.ref x)) :: R) []) := by
  rintro xs news m h tk Q E ⟨⟨hx1, hx2⟩, tl, ln, n, kl, ys, hy, hK, rfl⟩ F N hnil hcons
  have hIn := N (I, ciObj b ti) (by k_mem)
  have hbn := N (b, methodObj (.ref 49) (.ref x)) (by k_mem)
  obtain ⟨fo, fd, hfo, hfod⟩ := fn_at fn49 hX
  refine next_ci rfl hIn.1 hbn.1 (F.keep _ _ hfo) hfod ?_
  refine codeAny_mono (rc_ctc w mean mg mb _ x dx pb st ds rd cc cell lf k1 k2 k3 k4 tl tw ln n kl ys xs ods ost ord occ ocell hy hx1 hx2 hod hc hd hfd hr hlf hdl hdx dp (un + 1) gd cn cs a ccd cl outer A₀ base h₀ L m _
    (fun v s' => ∃ c t', v = .str c t' ∧ s'.heap.get? I = some (ciObj b ti) ∧ s'.heap.get? b = some (methodObj (.ref 49) (.ref x)) ∧ s'.heap.get? 49 = some fo ∧
          ((c ≠ Str.ofString "" ∧ Q (some v) s') ∨ (c = Str.ofString "" ∧ ∀ h', Heap.ExtBut I s'.heap h' → Q none { s' with heap := h' }))) (fun _ _ => False) hB F hX N hT hk hd' hu ?_) ?_
  · rintro v news' h' tk' g' ⟨rfl, hn, hcs⟩ F' N'
    rcases xs with _ | ⟨c, r⟩
    · obtain ⟨⟨t, rfl⟩, rfl⟩ := hn rfl
      refine ⟨_, _, rfl, (N' (I, ciObj b ti) (by k_mem)).1, (N' (b, methodObj (.ref 49) (.ref x)) (by k_mem)).1, F'.keep _ _ hfo, .inr ⟨rfl, fun h2 e2 => ?_⟩⟩
      have hsub : News h₀ L h2 ((x, instObj 66 dx) :: (dx, dictOf (lxE w k1 k2 k3 k4 tl tw ln st pb) n) :: (lf, W.listOf ys.toArray kl) :: (rd, ord) :: (cc, occ) :: (cell, ocell) :: (ds, ods) :: (st, ost) :: (b, methodObj (.ref 49) (.ref x)) :: R) := by
        intro p hp
        have hp' : p = (dx, dictOf (lxE w k1 k2 k3 k4 tl tw ln st pb) n) ∨ p = (lf, W.listOf ys.toArray kl) ∨ p ∈ (x, instObj 66 dx) :: (rd, ord) :: (cc, occ) :: (cell, ocell) :: (ds, ods) :: (st, ost) :: (b, methodObj (.ref 49) (.ref x)) :: R := by
          simp only [List.mem_cons] at hp ⊢
          grind
        have hpn := N' p (by simp only [List.mem_cons] at hp ⊢; grind)
        have hne : p.1 ≠ I := by
          rcases hp' with rfl | rfl | hp'
          · exact Ne.symm (hdx (I, ciObj b ti) (by k_mem))
          · exact Ne.symm (hlf (I, ciObj b ti) (by k_mem))
          · exact hI p hp'
        exact ⟨e2 _ _ hne hpn.1, hpn.2⟩
      have F2 : Fr h₀ L h2 m := ⟨F'.ns.at' fun o e => e2 _ _ (Ne.symm hIn.2.1) e, fun q o e => e2 q o (fun hq => by rw [hq, hIn.2.2] at e; cases e) (F'.keep q o e), F'.above⟩
      exact hnil rfl _ h2 tk' ⟨⟨Nat.zero_le _, fun _ hq => (nomatch hq)⟩, tl, ln, n, kl, ys, hy, hK, rfl⟩ F2 hsub
    · obtain ⟨⟨t, rfl⟩, ys', kl', tl', n', hy', rfl⟩ := hcs c r rfl
      refine ⟨_, _, rfl, (N' (I, ciObj b ti) (by k_mem)).1, (N' (b, methodObj (.ref 49) (.ref x)) (by k_mem)).1, F'.keep _ _ hfo, .inl ⟨one_ne (hx2 c (.head _)), ?_⟩⟩
      refine hcons c r t _ h' tk' rfl ⟨⟨by rw [List.length_cons] at hx1; omega, fun y hy => hx2 y (.tail _ hy)⟩, tl', _, n', kl', ys', hy', ?_, rfl⟩ F' N'
      rw [← hK, nls]
      omega
  · intro r s' hr
    cases r with
    | error e => exact hr
    | ok f => cases f <;> exact hr
end
end
section
open PySem PySem.W PyProof.Rows
open PySem.Builtin PySem.Builtin.Str
set_option maxRecDepth 100000
set_option maxHeartbeats 8000000

abbrev sg (c : Nat) : Str := ⟨#[c]⟩
noncomputable def isWs (c : Nat) : Bool := decide (c ∈ [10, 9, 13, 32])
/-- a token in quotation marks, behind the first one -/
noncomputable def inQ : List Nat → List Nat → Option (List Nat × List Nat)
  | [], _ => none
  | [c], tok => if c = 34 then some (tok, []) else none
  | c :: d :: r, tok => if c = 34 then some (tok, d :: r) else if c = 92 then inQ r (tok ++ [d]) else inQ (d :: r) (tok ++ [c])
/-- a bare token -/
noncomputable def inB : List Nat → List Nat → Option (List Nat × List Nat)
  | [], _ => none
  | [c], tok => if isWs c then some (tok, []) else none
  | c :: d :: r, tok => if isWs c then some (tok, d :: r) else if c = 92 then inB r (tok ++ [d]) else inB (d :: r) (tok ++ [c])
/-- what get_token reads, the queue being empty -/
noncomputable def rdT : List Nat → Option (List Nat × List Nat)
  | [] => some ([], [])
  | [_] => none
  | c :: d :: r => if isWs c then none else if c = 34 then inQ (d :: r) [] else if c = 92 then inB r [d] else inB (d :: r) [c]
theorem ls_ws : ls (Str.ofString "\n\t\x0d ") = [10, 9, 13, 32] := by decide +kernel
theorem sg_ws {c : Nat} {b : Bool} (h : (occurrences (Str.ofString "\n\t\x0d ") (sg c) 0 (Str.ofString "\n\t\x0d ").length 1).isEmpty = b) : isWs c = !b := by
  rw [occ_char, ls_ws] at h
  unfold isWs
  rw [← h]; simp
theorem sg_eq {c d : Nat} : (sg c == sg d) = decide (c = d) := by
  by_cases h : c = d
  · subst h; simp
  · rw [decide_eq_false h]
    refine beq_eq_false_iff_ne.mpr fun e => h ?_
    have := congrArg ls e
    simpa [ls] using this
theorem sg_q : Str.ofString "\"" = sg 34 := by decide +kernel
theorem sg_b : Str.ofString "\\" = sg 92 := by decide +kernel
theorem map_sg_cons {xs : List Nat} {c : Str} {r : List Str} (h : xs.map sg = c :: r) : ∃ d ds, xs = d :: ds ∧ c = sg d ∧ r = ds.map sg := by
  cases xs with
  | nil => cases h
  | cons d ds => obtain ⟨rfl, rfl⟩ := List.cons.inj h; exact ⟨d, ds, rfl, rfl, rfl⟩
theorem S_add (l : List Nat) (d : Nat) : S l ++ sg d = S (l ++ [d]) := by
  apply str_ext
  rw [ls_append, ls_S, ls_S]
theorem S_nil : Str.ofString "" = S [] := by decide +kernel
section
variable {prog : Program} {w : World} {A : Around} {s : Shared} {E : Value → Shared → Prop} {h₀ : Heap} {L : Addr} {m : Str → Option Value} {news : List (Addr × Obj)}
theorem iter2_led {Q : Value → Shared → Prop} {b f : Addr} {y : Value} {t : Tok} (F : Fr h₀ L s.heap m) (N : News h₀ L s.heap news) (hm : (b, methodObj (.ref f) y) ∈ news)
    (h : ∀ I h', Fr h₀ L h' m → News h₀ L h' ((I, ciObj b t) :: news) → (∀ p ∈ news, p.1 < I) → Q (.ref I) { s with heap := h' }) :
    wpAny (model prog w) A (call (.builtin "iter") [.ref b, .str (Str.ofString "") t]) Q E s :=
  call_iter2 (N _ hm).1 (h s.heap.objs.size _ (F.push _) (N.push F _) fun p hp => Heap.lt_size (N p hp).1)
end
section
variable {h₀ h : Heap} {L : Addr} {a1 a2 a3 a4 a5 a6 a7 a8 i b : Addr × Obj} {r : List (Addr × Obj)} {z : Addr}
theorem iter_order (N : News h₀ L h (i :: b :: a1 :: a2 :: a3 :: a4 :: a5 :: a6 :: a7 :: a8 :: r)) : News h₀ L h (a1 :: a2 :: a3 :: a4 :: a5 :: a6 :: a7 :: a8 :: i :: b :: r) := news_sub N fun p hp => by
  simp only [List.mem_cons] at hp ⊢
  grind
theorem led_nei (h : ∀ p ∈ a1 :: a4 :: a5 :: a6 :: a7 :: a8 :: r, p.1 ≠ z) (hi : i.1 ≠ z) (hb : b.1 ≠ z) : ∀ p ∈ a1 :: a4 :: a5 :: a6 :: a7 :: a8 :: i :: b :: r, p.1 ≠ z := fun p hp => by
  simp only [List.mem_cons] at hp
  have : p = i ∨ p = b ∨ p ∈ a1 :: a4 :: a5 :: a6 :: a7 :: a8 :: r := by simp only [List.mem_cons]; grind
  rcases this with rfl | rfl | q
  · exact hi
  · exact hb
  · exact h p q
end
theorem look1 (p : Str) (v : Value) : (fun y => List.lookup y [(p, v)]) = fun y => if y = p then some v else none := by
  funext y
  by_cases e : y = p
  · rw [if_pos e, e]; simp [List.lookup]
  · rw [if_neg e]
    have e1 : (y == p) = false := by simpa using e
    rw [List.lookup, e1]; rfl
section
variable {d d2 : Nat} {r tok T R : List Nat}
theorem rdT_q (h : rdT (d :: d2 :: r) = some (T, R)) (hw : isWs d = false) (hq : d = 34) : inQ (d2 :: r) [] = some (T, R) := by
  rw [rdT, hw, if_neg (by decide), if_pos hq] at h; exact h
theorem rdT_b (h : rdT (d :: d2 :: r) = some (T, R)) (hw : isWs d = false) (hq : d ≠ 34) (hb : d = 92) : inB r [d2] = some (T, R) := by
  rw [rdT, hw, if_neg (by decide), if_neg hq, if_pos hb] at h; exact h
theorem rdT_o (h : rdT (d :: d2 :: r) = some (T, R)) (hw : isWs d = false) (hq : d ≠ 34) (hb : d ≠ 92) : inB (d2 :: r) [d] = some (T, R) := by
  rw [rdT, hw, if_neg (by decide), if_neg hq, if_neg hb] at h; exact h
theorem inQ_end (h : inQ (d :: r) tok = some (T, R)) (hq : d = 34) : T = tok ∧ R = r := by
  cases r with
  | nil => rw [inQ, if_pos hq] at h; injection h with h; injection h with a b; exact ⟨a.symm, b.symm⟩
  | cons e r => rw [inQ, if_pos hq] at h; injection h with h; injection h with a b; exact ⟨a.symm, b.symm⟩
theorem inQ_more (h : inQ (d :: r) tok = some (T, R)) (hq : d ≠ 34) : ∃ e r', r = e :: r' ∧ (d = 92 → inQ r' (tok ++ [e]) = some (T, R)) ∧ (d ≠ 92 → inQ r (tok ++ [d]) = some (T, R)) := by
  cases r with
  | nil => rw [inQ, if_neg hq] at h; cases h
  | cons e r =>
    rw [inQ, if_neg hq] at h
    refine ⟨e, r, rfl, fun hb => ?_, fun hb => ?_⟩
    · rw [if_pos hb] at h; exact h
    · rw [if_neg hb] at h; exact h
theorem inB_end (h : inB (d :: r) tok = some (T, R)) (hq : isWs d = true) : T = tok ∧ R = r := by
  cases r with
  | nil => rw [inB, if_pos hq] at h; injection h with h; injection h with a b; exact ⟨a.symm, b.symm⟩
  | cons e r => rw [inB, if_pos hq] at h; injection h with h; injection h with a b; exact ⟨a.symm, b.symm⟩
theorem inB_more (h : inB (d :: r) tok = some (T, R)) (hq : isWs d = false) : ∃ e r', r = e :: r' ∧ (d = 92 → inB r' (tok ++ [e]) = some (T, R)) ∧ (d ≠ 92 → inB r (tok ++ [d]) = some (T, R)) := by
  cases r with
  | nil => rw [inB, hq, if_neg (by decide)] at h; cases h
  | cons e r =>
    rw [inB, hq, if_neg (by decide)] at h
    refine ⟨e, r, rfl, fun hb => ?_, fun hb => ?_⟩
    · rw [if_pos hb] at h; exact h
    · rw [if_neg hb] at h; exact h
theorem sgq_t (h : (sg d == Str.ofString "\"") = true) : d = 34 := by rw [sg_q, sg_eq] at h; simpa using h
theorem sgq_f (h : (sg d == Str.ofString "\"") = false) : d ≠ 34 := by rw [sg_q, sg_eq] at h; simpa using h
theorem sgb_t (h : (sg d == Str.ofString "\\") = true) : d = 92 := by rw [sg_b, sg_eq] at h; simpa using h
theorem sgb_f (h : (sg d == Str.ofString "\\") = false) : d ≠ 92 := by rw [sg_b, sg_eq] at h; simpa using h
theorem S_len (l : List Nat) : (S l).length = l.length := S_length l
theorem sg_S (d : Nat) : sg d = S [d] := rfl
theorem S_nil_add (d : Nat) : Str.ofString "" ++ sg d = S [d] := by rw [S_nil, S_add]; rfl
end
end
section
open PySem PySem.W PyProof.Rows
open PySem.Builtin PySem.Builtin.Str
set_option maxRecDepth 100000
set_option maxHeartbeats 8000000



local macro_rules | `(tactic| walk_at "call ref") => `(tactic| (refine stop_here ?_))
local macro_rules | `(tactic| walk_at "call builtin:iter") => `(tactic| (refine' iter2_led ?kF ?kN ?km ?_; (case kF => k_asm); (case kN => k_asm); (case km => k_mem); k_whole; intro I' h' F' N' l1; (try k_lt l1)))
local macro_rules | `(tactic| walk_at "exec For Name Name cons nil") => `(tactic| (k_here; (with_unfolding_all refine' For_R ?_)))


inductive LXI (w : World) (k1 k2 k3 k4 tw : Tok) (x dx pb st ds rd cc cell lf : Addr) (ods ost ord occ ocell : Obj) (K : Int) (R : List (Addr × Obj)) (xs : List Str) : List (Addr × Obj) → Prop
  | mk (hz1 : xs.length ≤ 1000) (hz2 : ∀ x ∈ xs, x.length = 1) (tl : Tok) (ln : Int) (n kl : Nat) (ys : List Value) (hy : StrsAre ys xs) (hK : ln + nls xs = K) : LXI w k1 k2 k3 k4 tw x dx pb st ds rd cc cell lf ods ost ord occ ocell K R xs ((x, instObj 66 dx) :: (dx, dictOf (lxE w k1 k2 k3 k4 tl tw ln st pb) n) :: (lf, W.listOf ys.toArray kl) :: (rd, ord) :: (cc, occ) :: (cell, ocell) :: (ds, ods) :: (st, ost) :: R)
inductive RcI (w : World) (k1 k2 k3 k4 tw : Tok) (x dx pb st ds rd cc cell lf : Addr) (ods ost ord occ ocell : Obj) (R : List (Addr × Obj)) (ln : Int) (g : Array GenState) (c : Str) (r : List Str) : Value → List (Addr × Obj) → Array GenState → Prop
  | mk (t : Tok) (ys' : List Value) (kl' : Nat) (tl' : Tok) (n' : Nat) (hy : StrsAre ys' r) : RcI w k1 k2 k3 k4 tw x dx pb st ds rd cc cell lf ods ost ord occ ocell R ln g c r (.str c t) ((x, instObj 66 dx) :: (dx, dictOf (lxE w k1 k2 k3 k4 tl' tw (ln + (if c = Str.ofString (String.singleton (Char.ofNat 10)) then 1 else 0)) st pb) n') :: (lf, W.listOf ys'.toArray kl') :: (rd, ord) :: (cc, occ) :: (cell, ocell) :: (ds, ods) :: (st, ost) :: R) g
inductive JrI (O : Prop) (PI : List Nat → List Nat → Prop) (TK : List Nat → Tok → Prop) : Str → List Str → Prop
  | mk (d : Nat) (ds tok : List Nat) (t : Tok) (hm : O) (hi : PI (d :: ds) tok) (hl : tok.length + (d :: ds).length ≤ 1000) (ht : TK tok t) : JrI O PI TK (sg d) (ds.map sg)
inductive JoI (O : Prop) (PI : List Nat → Prop) (TK : Tok → Prop) : Str → List Str → Prop
  | mk (d : Nat) (ds : List Nat) (t : Tok) (hm : O) (hi : PI (d :: ds)) (hl : (d :: ds).length ≤ 1000) (ht : TK t) : JoI O PI TK (sg d) (ds.map sg)
section
variable {w : World} {k1 k2 k3 k4 tw : Tok} {x dx pb st ds rd cc cell lf : Addr} {ods ost ord occ ocell : Obj} {K : Int} {R : List (Addr × Obj)}
theorem lx_of {xs : List Str} {news : List (Addr × Obj)} (h : LXS w k1 k2 k3 k4 tw x dx pb st ds rd cc cell lf ods ost ord occ ocell K R xs news) : LXI w k1 k2 k3 k4 tw x dx pb st ds rd cc cell lf ods ost ord occ ocell K R xs news := by
  obtain ⟨⟨a, b⟩, tl, ln, n, kl, ys, hy, hK, rfl⟩ := h
  exact .mk a b tl ln n kl ys hy hK
theorem rc_of {v : Value} {news' : List (Addr × Obj)} {g g' : Array GenState} {c : Str} {r : List Str} {B : Prop} {ln : Int}
    (h : g' = g ∧ B ∧ ∀ c0 r0, c :: r = c0 :: r0 → (∃ t, v = .str c0 t) ∧ ∃ ys' kl' tl' n', StrsAre ys' r0 ∧ news' = (x, instObj 66 dx) :: (dx, dictOf (lxE w k1 k2 k3 k4 tl' tw (ln + (if c0 = Str.ofString (String.singleton (Char.ofNat 10)) then 1 else 0)) st pb) n') :: (lf, W.listOf ys'.toArray kl') :: (rd, ord) :: (cc, occ) :: (cell, ocell) :: (ds, ods) :: (st, ost) :: R) : RcI w k1 k2 k3 k4 tw x dx pb st ds rd cc cell lf ods ost ord occ ocell R ln g c r v news' g' := by
  obtain ⟨rfl, -, hcs⟩ := h
  obtain ⟨⟨t, rfl⟩, ys, kl, tl, n', hy, rfl⟩ := hcs _ _ rfl
  exact .mk t ys kl tl n' hy
end
theorem jr_of {O : Prop} {PI : List Nat → List Nat → Prop} {TK : List Nat → Tok → Prop} {c : Str} {r : List Str}
    (h : O ∧ ∃ cs' tok', c :: r = cs'.map sg ∧ PI cs' tok' ∧ tok'.length + cs'.length ≤ 1000 ∧ ∃ t, TK tok' t) : JrI O PI TK c r := by
  obtain ⟨hm, cs, tok, he, hi, hl, t, ht⟩ := h
  obtain ⟨d, ds, rfl, rfl, rfl⟩ := map_sg_cons he.symm
  exact .mk d ds tok t hm hi hl ht
theorem jo_of {O : Prop} {PI : List Nat → Prop} {TK : Tok → Prop} {c : Str} {r : List Str}
    (h : O ∧ ∃ cs', c :: r = cs'.map sg ∧ PI cs' ∧ cs'.length ≤ 1000 ∧ ∃ t, TK t) : JoI O PI TK c r := by
  obtain ⟨hm, cs, he, hi, hl, t, ht⟩ := h
  obtain ⟨d, ds, rfl, rfl, rfl⟩ := map_sg_cons he.symm
  exact .mk d ds t hm hi hl ht
section
variable {d e : Nat} {r tok T R : List Nat}
theorem inQ_one (hq : d ≠ 34) (h : inQ [d] tok = some (T, R)) : False := by
  obtain ⟨_, _, he, -⟩ := inQ_more h hq
  cases he
theorem inB_one (hq : isWs d = false) (h : inB [d] tok = some (T, R)) : False := by
  obtain ⟨_, _, he, -⟩ := inB_more h hq
  cases he
theorem inQ_two (h : inQ (d :: e :: r) tok = some (T, R)) (hq : d ≠ 34) : (d = 92 → inQ r (tok ++ [e]) = some (T, R)) ∧ (d ≠ 92 → inQ (e :: r) (tok ++ [d]) = some (T, R)) := by
  obtain ⟨_, _, he, h1, h2⟩ := inQ_more h hq
  cases he
  exact ⟨h1, h2⟩
theorem inB_two (h : inB (d :: e :: r) tok = some (T, R)) (hq : isWs d = false) : (d = 92 → inB r (tok ++ [e]) = some (T, R)) ∧ (d ≠ 92 → inB (e :: r) (tok ++ [d]) = some (T, R)) := by
  obtain ⟨_, _, he, h1, h2⟩ := inB_more h hq
  cases he
  exact ⟨h1, h2⟩
end
theorem ch_skip {m : Str → Option Value} {a : Str} {v w : Option Value} : (fun y => if y = a then v else if y = a then w else m y) = fun y => if y = a then v else m y := by
  funext y
  by_cases e : y = a
  · rw [if_pos e, if_pos e]
  · rw [if_neg e, if_neg e, if_neg e]
inductive ChMid (h₀ : Heap) (L : Addr) (m : Str → Option Value) (x : Str) (PP : Value → List Str → Prop) (LS : List Str → List (Addr × Obj) → Prop) (s s' : Shared) : Prop
  | mk (h' : Heap) (tk : Nat) (v : Value) (xs : List Str) (news' : List (Addr × Obj)) (e : s' = { s with heap := h', toks := tk }) (F : Fr h₀ L h' (fun y => if y = x then some v else m y)) (N : News h₀ L h' news') (hp : PP v xs) (hL : LS xs news') : ChMid h₀ L m x PP LS s s'
theorem cut_ch {prog : Program} {w : World} {A : Around} {s : Shared} {env : Env} {h₀ : Heap} {E : Value → Shared → Prop} {st : Stmt} {rest : List Stmt} {Q : Flow → Shared → Prop} {L : Addr} {v₀ : Option Value} {m : Str → Option Value} (x : Str)
    (PP : Value → List Str → Prop) (LS : List Str → List (Addr × Obj) → Prop) (_F : Fr h₀ L s.heap (fun y => if y = x then v₀ else m y))
    (h1 : wpAny (model prog w) A (exec st env) (fun f s' => f = .next ∧ ChMid h₀ L m x PP LS s s') E s)
    (h2 : ∀ h' tk v xs news', Fr h₀ L h' (fun y => if y = x then some v else m y) → News h₀ L h' news' → PP v xs → LS xs news' → wpAny (model prog w) A (execs rest env) Q E { s with heap := h', toks := tk }) :
    wpAny (model prog w) A (execs (st :: rest) env) Q E s := by
  refine wpAny_execs_cons (wpAny_mono h1 (fun f s' h => ?_) fun _ _ e => e)
  obtain ⟨rfl, h', tk, v, xs, news', rfl, F, N, hp, hl⟩ := h
  exact h2 h' tk v xs news' F N hp hl
local macro_rules | `(tactic| walk_at "execs cons") => `(tactic| ((with_reducible show wpAny _ _ (execs (Stmt.If (Expr.Compare _ [CmpOp.Eq] _ _) _ [] _ :: _ :: _) _) _ _ _); refine stop_here ?_))
theorem getr_ct (w : World) (mean : ExcName → Option Value) (mg mb : Str → Option Value) (news : List (Addr × Obj)) (x dx pb st ds rd cc cell lf : Addr) (k1 k2 k3 k4 tw : Tok) (K : Int) (kp : Nat) (ods ost ord occ ocell : Obj) (cs T Rst : List Nat) (led : List (Addr × Obj)) (hod : DictIs ods (fun y => if y = Str.ofString "read" then some (.ref rd) else none)) (hc : ost.cls = .type "function") (hd : ost.dict = some ds) (hfd : ∃ fd, ost.data = .func fd) (hr : ReadOk w mean mg mb rd ord cc occ cell ocell lf)
   (hlf : ∀ p ∈ (x, instObj 66 dx) :: (rd, ord) :: (cc, occ) :: (cell, ocell) :: (ds, ods) :: (st, ost) :: (pb, W.listOf ([] : List Value).toArray kp) :: news, p.1 ≠ lf) (hdl : dx ≠ lf)
   (hdx : ∀ p ∈ (x, instObj 66 dx) :: (rd, ord) :: (cc, occ) :: (cell, ocell) :: (ds, ods) :: (st, ost) :: (pb, W.listOf ([] : List Value).toArray kp) :: news, p.1 ≠ dx)
   (ht : rdT cs = some (T, Rst)) (hL : LXS w k1 k2 k3 k4 tw x dx pb st ds rd cc cell lf ods ost ord occ ocell K ((pb, W.listOf ([] : List Value).toArray kp) :: news) (cs.map sg) led) :
   Ct 20 w mean mg mb 56 led [.ref x] (fun v news' g g' => g' = g ∧ (∃ t, v = .str (S T) t) ∧ LXS w k1 k2 k3 k4 tw x dx pb st ds rd cc cell lf ods ost ord occ ocell K ((pb, W.listOf ([] : List Value).toArray kp) :: news) (Rst.map sg) news') := by
  obtain ⟨⟨hx1, hx2⟩, tl, ln, n, kl, ys, hy, hK, rfl⟩ := hL
  w_top on
  w_on
  unfold Ct
  k_fill
  intro dp un gd cn cs0 a ccd cl outer A₀ base h₀ L m s Q E hB hF hX hN hT hK0 hDp hUn hret
  walk_at "my enter"
  rename Fr _ _ _ _ => FF
  have FN := reframe (m' := fun y => if y = Str.ofString "self" then some (.ref x) else none) FF (by with_unfolding_all exact look1 _ _)
  clear FF hF hN

  k_steps
  rename_i gA LA hA0 FG BA XA TA hA2 bm hA3 l1 I hA4 l2 hA5 FA NA

  obtain ⟨ti, NB⟩ : ∃ ti, News gA LA hA5 ((I, ciObj bm ti) :: (bm, methodObj (.ref 49) (.ref x)) :: (x, instObj 66 dx) :: (dx, dictOf (lxE w k1 k2 k3 k4 tl tw ln st pb) n) :: (lf, W.listOf ys.toArray kl) :: (rd, ord) :: (cc, occ) :: (cell, ocell) :: (ds, ods) :: (st, ost) :: (pb, W.listOf ([] : List Value).toArray kp) :: news) := ⟨_, NA⟩
  clear NA
  have N1 : News _ _ _ ((x, instObj 66 dx) :: (dx, dictOf (lxE w k1 k2 k3 k4 tl tw ln st pb) n) :: (lf, W.listOf ys.toArray kl) :: (rd, ord) :: (cc, occ) :: (cell, ocell) :: (ds, ods) :: (st, ost) :: (I, ciObj bm ti) :: (bm, methodObj (.ref 49) (.ref x)) :: (pb, W.listOf ([] : List Value).toArray kp) :: news) := iter_order NB
  clear NB
  have hlf' := led_nei (i := (I, ciObj bm ti)) (b := (bm, methodObj (.ref 49) (.ref x))) hlf (neN (by lia  )) (neN (by lia  ))
  have hdx' := led_nei (i := (I, ciObj bm ti)) (b := (bm, methodObj (.ref 49) (.ref x))) hdx (neN (by lia  )) (neN (by lia  ))
  have hI' : ∀ p ∈ (x, instObj 66 dx) :: (rd, ord) :: (cc, occ) :: (cell, ocell) :: (ds, ods) :: (st, ost) :: (bm, methodObj (.ref 49) (.ref x)) :: (pb, W.listOf ([] : List Value).toArray kp) :: news, p.1 ≠ I := all_ne (allLt_mem (D := I) ⟨by lia  , by lia  , by lia  , by lia  , by lia  , by lia  , by lia  , by lia  , l2.2.2.2.2.2.2.2.2.2.2⟩) (Nat.le_refl _)
  have hIm : ∀ (tl : Tok) (ln : Int) (n kl : Nat) (ys : List Value), (I, ciObj bm ti) ∈ (x, instObj 66 dx) :: (dx, dictOf (lxE w k1 k2 k3 k4 tl tw ln st pb) n) :: (lf, W.listOf ys.toArray kl) :: (rd, ord) :: (cc, occ) :: (cell, ocell) :: (ds, ods) :: (st, ost) :: (I, ciObj bm ti) :: (bm, methodObj (.ref 49) (.ref x)) :: (pb, W.listOf ([] : List Value).toArray kp) :: news := fun _ _ _ _ _ => .tail _ (.tail _ (.tail _ (.tail _ (.tail _ (.tail _ (.tail _ (.tail _ (.head _))))))))
  refine' iter_R (xs := cs.map sg) (fun xs m₁ => Off [Str.ofString "ch", Str.ofString "token"] _ m₁ ∧ ∃ cs', xs = cs'.map sg ∧ rdT cs' = some (T, Rst) ∧ cs'.length ≤ 1000 ∧ ∃ t, m₁ (Str.ofString "token") = some (.str (Str.ofString "") t)) rfl rfl (hIm _ _ _ _ _) (reads_ci (K := K) (x := x) (lf := lf) (R := (pb, W.listOf ([] : List Value).toArray kp) :: news) ?rB ?rX ?rT ?rK ?rd ?ru hod hc hd hfd hr hlf' hdl hdx' hI') ⟨⟨hx1, hx2⟩, tl, ln, n, kl, ys, hy, hK, rfl⟩ ?rF ?rN ⟨Off.refl, cs, rfl, ht, by simpa using hx1, ?rJ⟩ ?step ?done
  case rB => k_asm
  case rX => k_asm
  case rT => k_asm
  case rK => exact rfl
  case rd => first | exact room_d (by assumption) (by rfl) | lia   | ((try simp only [depth_deeper]); (try dsimp only [ktrTop]); lia  )
  case ru => first | exact room_u (by assumption) (by rfl) | lia   | ((try simp only [Around.deeper_units]); (try dsimp only [ktrTop]); lia  )
  case rF => k_asm
  case rN => k_asm
  case rJ => exact ⟨_, rfl⟩
  case step =>
    intro c r t m₁ news₁ h tk1 hJ9
    have hJ := jo_of hJ9
    clear hJ9 FA N1
    obtain ⟨d, ds', t0, hm, hrd, hl, htk⟩ := hJ
    intro hL9
    have hL := lx_of hL9
    clear hL9
    obtain ⟨hz1, hz2, tl', ln', n', kl', ys', hy', hK'⟩ := hL
    intro F N
    rw [Off.eq2 hm htk] at F
    clear hm htk
    rcases ds' with _ | ⟨d2, ds2⟩
    · exact absurd hrd (by simp [rdT])
    have hdl1 : (sg d).length = 1 := rfl
    dsimp only
    k_steps
    · rename List.isEmpty _ = true => hws
      rename (sg d == _) = true => hq
      have hin := rdT_q hrd (by simpa using sg_ws hws) (sgq_t hq)
      refine' iter_R (xs := (d2 :: ds2).map sg) (fun xs m₁ => Off [Str.ofString "ch", Str.ofString "token"] _ m₁ ∧ ∃ cs' tok', xs = cs'.map sg ∧ inQ cs' tok' = some (T, Rst) ∧ tok'.length + cs'.length ≤ 1000 ∧ ∃ t, m₁ (Str.ofString "token") = some (.str (S tok') t)) rfl rfl (hIm _ _ _ _ _) (reads_ci (K := K) (x := x) (lf := lf) (R := (pb, W.listOf ([] : List Value).toArray kp) :: news) ?i_rB ?i_rX ?i_rT ?i_rK ?i_rd ?i_ru hod hc hd hfd hr hlf' hdl hdx' hI') ⟨⟨hz1, hz2⟩, tl', ln', n', kl', ys', hy', hK', rfl⟩ ?i_rF ?i_rN ⟨Off.refl, _, [], rfl, hin, ?i_rl, ?i_rJ⟩ ?i_step ?i_done
      case i_rB => k_asm
      case i_rX => k_asm
      case i_rT => k_asm
      case i_rK => exact rfl
      case i_rd => first | exact room_d (by assumption) (by rfl) | lia   | ((try simp only [depth_deeper]); (try dsimp only [ktrTop]); lia  )
      case i_ru => first | exact room_u (by assumption) (by rfl) | lia   | ((try simp only [Around.deeper_units]); (try dsimp only [ktrTop]); lia  )
      case i_rF => k_asm
      case i_rN => k_asm
      case i_rl => simp only [List.length_cons, List.length_nil] at hl ⊢; lia  
      case i_rJ => first | exact ⟨_, rfl⟩ | exact ⟨_, congrArg (fun z => some (Value.str z _)) (S_nil_add _)⟩
      case i_done =>
        rintro m' news' h' tk' ⟨hm9, cs9, tok9, he9, hin9, hl9, t0', htk9⟩ hLS9 F9 N9
        cases cs9 with
        | nil => exact absurd hin9 (by simp [inQ])
        | cons _ _ => cases he9
      case i_step =>
        intro c r t m₂ news₂ h2 tk2 hJ9
        have hJ := jr_of hJ9
        clear hJ9
        obtain ⟨d9, ds9, tok9, t0', hm9, hin9, hl9, htk9⟩ := hJ
        intro hL9
        have hL := lx_of hL9
        clear hL9
        obtain ⟨hz1', hz2', tl9, ln9, n9, kl9, ys9, hy9, hK9⟩ := hL
        intro F9 N9
        rw [Off.eq2 hm9 htk9] at F9
        clear hm9 htk9
        have hdl9 : (sg d9).length = 1 := rfl
        have htl9 : (S tok9).length ≤ 1000 := by rw [S_len]; lia  
        dsimp only
        k_steps
        · rename (sg d9 == Str.ofString "\"") = true => hq
          have eE := inQ_end hin9 (sgq_t hq)
          dsimp only [BodyR]
          refine stop_here ?_
          walk_at "my leave"
          refine hret _ _ _ _ _ ⟨rfl, ⟨_, congrArg (fun z => Value.str (S z) _) eE.1.symm⟩, by rw [eE.2]; exact ⟨⟨hz1', hz2'⟩, tl9, ln9, n9, kl9, ys9, hy9, hK9, rfl⟩⟩ (by k_asm) (news_sub (by k_asm) (by walk_at "my sub"))
        · rename (sg d9 == Str.ofString "\"") = false => hq
          rcases ds9 with _ | ⟨e9, r9⟩
          · exact (inQ_one (sgq_f hq) hin9).elim
          have hb := inQ_two hin9 (sgq_f hq)
          rename (sg d9 == Str.ofString "\\") = true => hbs
          have hin2 := hb.1 (sgb_t hbs)
          have hle9 : (sg e9).length = 1 := rfl
          unfold Stop
          dsimp only
          refine' Ct.use ((rc_ctc w mean mg mb ((I, ciObj bm ti) :: (bm, methodObj (.ref 49) (.ref x)) :: (pb, W.listOf ([] : List Value).toArray kp) :: news) x dx pb st ds rd cc cell lf k1 k2 k3 k4 tl9 tw ln9 n9 kl9 ys9 _ ods ost ord occ ocell hy9 hz1' hz2' hod hc hd hfd hr hlf' hdl hdx').ct) ?i_B ?i_F ?i_X ?i_N ?i_T ?i_K ?i_d ?i_u ?_
          case i_B => k_asm
          case i_F => k_asm
          case i_X => k_asm
          case i_N => k_asm
          case i_T => k_asm
          case i_K => first | exact rfl | assumption
          case i_d => first | exact room_d (by assumption) (by rfl) | lia   | ((try simp only [depth_deeper]); (try dsimp only [ktrTop]); lia  )
          case i_u => first | exact room_u (by assumption) (by rfl) | lia   | ((try simp only [Around.deeper_units]); (try dsimp only [ktrTop]); lia  )
          intro v8 n8 h8 tk8 g8 hp8
          have hq8 := rc_of hp8
          clear hp8
          obtain ⟨t8, ys8, kl8, tl8, n8', hy8⟩ := hq8
          intro F8 N8
          clear N9 F9
          have hK8 : ln9 + (if sg e9 = Str.ofString (String.singleton (Char.ofNat 10)) then 1 else 0) + nls (r9.map sg) = K := by
            have := hK9
            simp only [List.map_cons, nls] at this
            lia  
          dsimp only
          k_steps
          refine' ⟨r9.map sg, _, _, _, _, rfl, ?g0, ⟨⟨?g00, fun y hy => hz2' y (.tail _ hy)⟩, tl8, _, n8', kl8, ys8, hy8, hK8, rfl⟩, ⟨?g1, r9, tok9 ++ [e9], rfl, hin2, ?g2, ?g3⟩, ?g4, ?g5⟩
          case g4 => k_asm
          case g5 => k_asm
          case g0 => simp
          case g00 => simp only [List.map_cons, List.length_cons] at hz1' ⊢; lia  
          case g1 => repeat (first | exact Off.refl | refine Off.put ?_ (by simp))
          case g2 => simp only [List.length_append, List.length_cons, List.length_nil] at hl9 ⊢; lia  
          case g3 => exact ⟨_, congrArg (fun z => some (Value.str z _)) (S_add _ _)⟩
        · rename (sg d9 == Str.ofString "\"") = false => hq
          rcases ds9 with _ | ⟨e9, r9⟩
          · exact (inQ_one (sgq_f hq) hin9).elim
          have hb := inQ_two hin9 (sgq_f hq)
          rename (sg d9 == Str.ofString "\\") = false => hbs
          have hin2 := hb.2 (sgb_f hbs)
          refine' ⟨(e9 :: r9).map sg, _, _, _, _, rfl, Nat.le_refl _, ⟨⟨hz1', hz2'⟩, tl9, ln9, n9, kl9, ys9, hy9, hK9, rfl⟩, ⟨?g1, e9 :: r9, tok9 ++ [d9], rfl, hin2, ?g2, ?g3⟩, ?g4, ?g5⟩
          case g4 => k_asm
          case g5 => k_asm
          case g1 => repeat (first | exact Off.refl | refine Off.put ?_ (by simp))
          case g2 => simp only [List.length_append, List.length_cons, List.length_nil] at hl9 ⊢; lia  
          case g3 => exact ⟨_, congrArg (fun z => some (Value.str z _)) (S_add _ _)⟩

    · rename List.isEmpty _ = true => hws
      rename (sg d == Str.ofString "\"") = false => hq
      unfold Stop
      rename Fr _ _ _ _ => F0
      refine' cut_ch (Str.ofString "ch") (fun v xs => ∃ c r t, v = .str (sg c) t ∧ xs = r.map sg ∧ inB r [c] = some (T, Rst) ∧ r.length + 1 ≤ 1000) (LXS w k1 k2 k3 k4 tw x dx pb st ds rd cc cell lf ods ost ord occ ocell K ((I, ciObj bm ti) :: (bm, methodObj (.ref 49) (.ref x)) :: (pb, W.listOf ([] : List Value).toArray kp) :: news)) F0 ?cutA ?cutB
      case cutA =>
        k_steps
        · rename (sg d == Str.ofString "\\") = true => hbs
          have hin := rdT_b hrd (by simpa using sg_ws hws) (sgq_f hq) (sgb_t hbs)
          have hle9 : (sg d2).length = 1 := rfl
          unfold Stop
          dsimp only
          refine' Ct.use ((rc_ctc w mean mg mb ((I, ciObj bm ti) :: (bm, methodObj (.ref 49) (.ref x)) :: (pb, W.listOf ([] : List Value).toArray kp) :: news) x dx pb st ds rd cc cell lf k1 k2 k3 k4 tl' tw ln' n' kl' ys' _ ods ost ord occ ocell hy' hz1 hz2 hod hc hd hfd hr hlf' hdl hdx').ct) ?i_B ?i_F ?i_X ?i_N ?i_T ?i_K ?i_d ?i_u ?_
          case i_B => k_asm
          case i_F => k_asm
          case i_X => k_asm
          case i_N => k_asm
          case i_T => k_asm
          case i_K => first | exact rfl | assumption
          case i_d => first | exact room_d (by assumption) (by rfl) | lia   | ((try simp only [depth_deeper]); (try dsimp only [ktrTop]); lia  )
          case i_u => first | exact room_u (by assumption) (by rfl) | lia   | ((try simp only [Around.deeper_units]); (try dsimp only [ktrTop]); lia  )
          intro v8 n8 h8 tk8 g8 hp8
          have hq8 := rc_of hp8
          clear hp8
          obtain ⟨t8, ys8, kl8, tl8, n8', hy8⟩ := hq8
          intro F8 N8
          clear N F0
          have hK8 : ln' + (if sg d2 = Str.ofString (String.singleton (Char.ofNat 10)) then 1 else 0) + nls (ds2.map sg) = K := by
            have := hK'
            simp only [List.map_cons, nls] at this
            lia  
          have hz8 : StrsOne (ds2.map sg) := ⟨by simp only [List.map_cons, List.length_cons] at hz1 ⊢; lia  , fun y hy => hz2 y (.tail _ hy)⟩
          dsimp only
          k_steps
          refine' ⟨_, _, _, _, _, rfl, ?z1, ?z2, ⟨d2, ds2, t8, rfl, rfl, hin, ?z3⟩, ⟨hz8, tl8, _, n8', kl8, ys8, hy8, hK8, rfl⟩⟩
          case z1 => (rename Fr _ _ _ _ => Fq; first | exact Fq | exact reframe Fq ch_skip)
          case z2 => k_asm
          case z3 => simp only [List.length_cons] at hl ⊢; lia  
        · rename (sg d == Str.ofString "\\") = false => hbs
          have hin := rdT_o hrd (by simpa using sg_ws hws) (sgq_f hq) (sgb_f hbs)
          refine' ⟨_, _, _, _, _, rfl, ?z1, ?z2, ⟨d, d2 :: ds2, t, rfl, rfl, hin, ?z3⟩, ⟨⟨hz1, hz2⟩, tl', ln', n', kl', ys', hy', hK', rfl⟩⟩
          case z1 => (rename Fr _ _ _ _ => Fq; first | exact Fq | exact reframe Fq ch_skip)
          case z2 => k_asm
          case z3 => simp only [List.length_cons] at hl ⊢; lia  
      case cutB =>
        rintro h7 tk7 v7 xs7 news7 F7 N7 ⟨c7, r7, t7, rfl, rfl, hin, hl7⟩ ⟨⟨hz17, hz27⟩, tl7, ln7, n7, kl7, ys7, hy7, hK7, rfl⟩
        clear N F0 hrd hl hz1 hz2 hy' hK' hws hq
        have hdl7 : (sg c7).length = 1 := rfl
        dsimp only
        k_steps
        refine' iter_R (xs := r7.map sg) (fun xs m₁ => Off [Str.ofString "ch", Str.ofString "token"] _ m₁ ∧ ∃ cs' tok', xs = cs'.map sg ∧ inB cs' tok' = some (T, Rst) ∧ tok'.length + cs'.length ≤ 1000 ∧ ∃ t, m₁ (Str.ofString "token") = some (.str (S tok') t)) rfl rfl (hIm _ _ _ _ _) (reads_ci (K := K) (x := x) (lf := lf) (R := (pb, W.listOf ([] : List Value).toArray kp) :: news) ?i_rB ?i_rX ?i_rT ?i_rK ?i_rd ?i_ru hod hc hd hfd hr hlf' hdl hdx' hI') ⟨⟨hz17, hz27⟩, tl7, ln7, n7, kl7, ys7, hy7, hK7, rfl⟩ ?i_rF ?i_rN ⟨Off.refl, _, [c7], rfl, hin, ?i_rl, ?i_rJ⟩ ?i_step ?i_done
        case i_rB => k_asm
        case i_rX => k_asm
        case i_rT => k_asm
        case i_rK => exact rfl
        case i_rd => first | exact room_d (by assumption) (by rfl) | lia   | ((try simp only [depth_deeper]); (try dsimp only [ktrTop]); lia  )
        case i_ru => first | exact room_u (by assumption) (by rfl) | lia   | ((try simp only [Around.deeper_units]); (try dsimp only [ktrTop]); lia  )
        case i_rF => k_asm
        case i_rN => k_asm
        case i_rl => simp only [List.length_cons, List.length_nil] at ⊢; lia  
        case i_rJ => first | exact ⟨_, rfl⟩ | exact ⟨_, congrArg (fun z => some (Value.str z _)) (S_nil_add _)⟩
        case i_done =>
          rintro m' news' h' tk' ⟨hm9, cs9, tok9, he9, hin9, hl9, t0', htk9⟩ hLS9 F9 N9
          cases cs9 with
          | nil => exact absurd hin9 (by simp [inB])
          | cons _ _ => cases he9
        case i_step =>
          intro c r t m₂ news₂ h2 tk2 hJ9
          have hJ := jr_of hJ9
          clear hJ9
          obtain ⟨d9, ds9, tok9, t0', hm9, hin9, hl9, htk9⟩ := hJ
          intro hL9
          have hL := lx_of hL9
          clear hL9
          obtain ⟨hz1', hz2', tl9, ln9, n9, kl9, ys9, hy9, hK9⟩ := hL
          intro F9 N9
          rw [Off.eq2 hm9 htk9] at F9
          clear hm9 htk9
          have hdl9 : (sg d9).length = 1 := rfl
          have htl9 : (S tok9).length ≤ 1000 := by rw [S_len]; lia  
          dsimp only
          k_steps
          · rename List.isEmpty _ = true => hws9
            rcases ds9 with _ | ⟨e9, r9⟩
            · exact (inB_one (by simpa using sg_ws hws9) hin9).elim
            have hb := inB_two hin9 (by simpa using sg_ws hws9)
            rename (sg d9 == Str.ofString "\\") = true => hbs
            have hin2 := hb.1 (sgb_t hbs)
            have hle9 : (sg e9).length = 1 := rfl
            unfold Stop
            dsimp only
            refine' Ct.use ((rc_ctc w mean mg mb ((I, ciObj bm ti) :: (bm, methodObj (.ref 49) (.ref x)) :: (pb, W.listOf ([] : List Value).toArray kp) :: news) x dx pb st ds rd cc cell lf k1 k2 k3 k4 tl9 tw ln9 n9 kl9 ys9 _ ods ost ord occ ocell hy9 hz1' hz2' hod hc hd hfd hr hlf' hdl hdx').ct) ?i_B ?i_F ?i_X ?i_N ?i_T ?i_K ?i_d ?i_u ?_
            case i_B => k_asm
            case i_F => k_asm
            case i_X => k_asm
            case i_N => k_asm
            case i_T => k_asm
            case i_K => first | exact rfl | assumption
            case i_d => first | exact room_d (by assumption) (by rfl) | lia   | ((try simp only [depth_deeper]); (try dsimp only [ktrTop]); lia  )
            case i_u => first | exact room_u (by assumption) (by rfl) | lia   | ((try simp only [Around.deeper_units]); (try dsimp only [ktrTop]); lia  )
            intro v8 n8 h8 tk8 g8 hp8
            have hq8 := rc_of hp8
            clear hp8
            obtain ⟨t8, ys8, kl8, tl8, n8', hy8⟩ := hq8
            intro F8 N8
            clear N9 F9
            have hK8 : ln9 + (if sg e9 = Str.ofString (String.singleton (Char.ofNat 10)) then 1 else 0) + nls (r9.map sg) = K := by
              have := hK9
              simp only [List.map_cons, nls] at this
              lia  
            dsimp only
            k_steps
            refine' ⟨r9.map sg, _, _, _, _, rfl, ?g0, ⟨⟨?g00, fun y hy => hz2' y (.tail _ hy)⟩, tl8, _, n8', kl8, ys8, hy8, hK8, rfl⟩, ⟨?g1, r9, tok9 ++ [e9], rfl, hin2, ?g2, ?g3⟩, ?g4, ?g5⟩
            case g4 => k_asm
            case g5 => k_asm
            case g0 => simp
            case g00 => simp only [List.map_cons, List.length_cons] at hz1' ⊢; lia  
            case g1 => repeat (first | exact Off.refl | refine Off.put ?_ (by simp))
            case g2 => simp only [List.length_append, List.length_cons, List.length_nil] at hl9 ⊢; lia  
            case g3 => exact ⟨_, congrArg (fun z => some (Value.str z _)) (S_add _ _)⟩
          · rename List.isEmpty _ = true => hws9
            rcases ds9 with _ | ⟨e9, r9⟩
            · exact (inB_one (by simpa using sg_ws hws9) hin9).elim
            have hb := inB_two hin9 (by simpa using sg_ws hws9)
            rename (sg d9 == Str.ofString "\\") = false => hbs
            have hin2 := hb.2 (sgb_f hbs)
            refine' ⟨(e9 :: r9).map sg, _, _, _, _, rfl, Nat.le_refl _, ⟨⟨hz1', hz2'⟩, tl9, ln9, n9, kl9, ys9, hy9, hK9, rfl⟩, ⟨?g1, e9 :: r9, tok9 ++ [d9], rfl, hin2, ?g2, ?g3⟩, ?g4, ?g5⟩
            case g4 => k_asm
            case g5 => k_asm
            case g1 => repeat (first | exact Off.refl | refine Off.put ?_ (by simp))
            case g2 => simp only [List.length_append, List.length_cons, List.length_nil] at hl9 ⊢; lia  
            case g3 => exact ⟨_, congrArg (fun z => some (Value.str z _)) (S_add _ _)⟩
          · rename List.isEmpty _ = false => hws9
            have eE := inB_end hin9 (by simpa using sg_ws hws9)
            dsimp only [BodyR]
            refine stop_here ?_
            walk_at "my leave"
            refine hret _ _ _ _ _ ⟨rfl, ⟨_, congrArg (fun z => Value.str (S z) _) eE.1.symm⟩, by rw [eE.2]; exact ⟨⟨hz1', hz2'⟩, tl9, ln9, n9, kl9, ys9, hy9, hK9, rfl⟩⟩ (by k_asm) (news_sub (by k_asm) (by walk_at "my sub"))

    · exfalso
      rename List.isEmpty _ = false => hws
      have := sg_ws hws
      simp [rdT, this] at hrd
  case done =>
    rintro m' news' h' tk' ⟨hm, cs', he, hrd, hl, t0, htk⟩ hLS F N
    have hc0 : cs' = [] := by cases cs' with | nil => rfl | cons _ _ => cases he
    subst hc0
    obtain ⟨rfl, rfl⟩ : [] = T ∧ [] = Rst := by simpa [rdT] using hrd
    rw [frame_at htk] at F
    obtain ⟨⟨hz1, hz2⟩, tl', ln', n', kl', ys', hy', hK', rfl⟩ := hLS
    clear FA N1 hm he
    dsimp only
    k_steps
    walk_at "my leave"
    refine hret _ _ _ _ _ ⟨rfl, ⟨_, rfl⟩, ⟨hz1, hz2⟩, tl', ln', n', kl', ys', hy', hK', rfl⟩ (by k_asm) (news_sub (by k_asm) (by walk_at "my sub"))
end
section
open PySem PySem.W PyProof.Rows
open PySem.Builtin PySem.Builtin.Str
set_option maxRecDepth 100000
set_option maxHeartbeats 8000000



theorem push_ct (w : World) (mean : ExcName → Option Value) (mg mb : Str → Option Value) (news : List (Addr × Obj)) (x dx pb st : Addr) (k1 k2 k3 k4 tl tw : Tok) (ln : Int) (n : Nat) (vs : List Value) (k : Nat) (v : Value) (h1 : pb ≠ x) (h2 : pb ≠ dx) (h3 : x ≠ dx) (hpb : ∀ p ∈ news, p.1 ≠ pb) (hl : vs.length ≤ 1000) :
   Ct 3 w mean mg mb 63 ((pb, W.listOf vs.toArray k) :: (x, instObj 66 dx) :: (dx, dictOf (lxE w k1 k2 k3 k4 tl tw ln st pb) n) :: news) [.ref x, v] (fun v' news' g g' => g' = g ∧ v' = .none ∧ ∃ k', news' = (pb, W.listOf (vs ++ [v]).toArray k') :: (x, instObj 66 dx) :: (dx, dictOf (lxE w k1 k2 k3 k4 tl tw ln st pb) n) :: news) := by
  w_top on
  w_on
  unfold Ct
  k_fill
  intro dp un gd cn cs a ccd cl outer A₀ base h₀ L m s Q E hB hF hX hN hT hK hDp hUn hret
  walk_at "my enter"
  clear hF hN
  k_steps
  have hne : ∀ p ∈ (x, instObj 66 dx) :: (dx, dictOf (lxE w k1 k2 k3 k4 tl tw ln st pb) n) :: news, p.1 ≠ pb := List.forall_mem_cons.mpr ⟨Ne.symm h1, List.forall_mem_cons.mpr ⟨Ne.symm h2, hpb⟩⟩
  refine' append_led (by k_asm) (by k_asm) hne (by omega) ?_
  intro h5 k5 F5 N5
  dsimp only
  k_steps
  walk_at "my leave"
  exact hret _ _ _ _ _ ⟨rfl, rfl, k5, rfl⟩ (by k_asm) (by k_asm)
end
section
open PySem PySem.W PyProof.Rows
open PySem.Builtin PySem.Builtin.Str
set_option maxRecDepth 100000
set_option maxHeartbeats 8000000
local macro_rules | `(tactic| walk_at "my none 0") => `(tactic| skip)



theorem get_ct (w : World) (mean : ExcName → Option Value) (mg mb : Str → Option Value) (news : List (Addr × Obj)) (x dx pb st : Addr) (k1 k2 k3 k4 tl tw : Tok) (ln : Int) (n : Nat) (vs : List Value) (k : Nat) (v : Value) (h1 : pb ≠ x) (h2 : pb ≠ dx) (h3 : x ≠ dx) (hpb : ∀ p ∈ news, p.1 ≠ pb) (hl : vs.length ≤ 1000) :
   Ct 3 w mean mg mb 56 ((pb, W.listOf (v :: vs).toArray k) :: (x, instObj 66 dx) :: (dx, dictOf (lxE w k1 k2 k3 k4 tl tw ln st pb) n) :: news) [.ref x] (fun v' news' g g' => g' = g ∧ v' = v ∧ ∃ k', news' = (pb, W.listOf vs.toArray k') :: (x, instObj 66 dx) :: (dx, dictOf (lxE w k1 k2 k3 k4 tl tw ln st pb) n) :: news) := by
  w_top on
  w_on
  unfold Ct
  k_fill
  intro dp un gd cn cs a ccd cl outer A₀ base h₀ L m s Q E hB hF hX hN hT hK hDp hUn hret
  walk_at "my enter"
  clear hF hN
  k_steps
  have hne : ∀ p ∈ (x, instObj 66 dx) :: (dx, dictOf (lxE w k1 k2 k3 k4 tl tw ln st pb) n) :: news, p.1 ≠ pb := List.forall_mem_cons.mpr ⟨Ne.symm h1, List.forall_mem_cons.mpr ⟨Ne.symm h2, hpb⟩⟩
  refine' pop_led (by k_asm) (by k_asm) hne (by omega) ?_
  intro h5 k5 F5 N5
  dsimp only
  k_steps
  walk_at "my leave"
  exact hret _ _ _ _ _ ⟨rfl, rfl, k5, rfl⟩ (by k_asm) (by k_asm)
end
section
open PySem PySem.W PyProof.Rows
open PySem.Builtin PySem.Builtin.Str
set_option maxRecDepth 100000
set_option maxHeartbeats 8000000


local macro_rules | `(tactic| walk_at "exec For Name Call cons nil") => `(tactic| (k_here; (rename Fr _ _ _ _ => lF'); (with_unfolding_all refine' For_S lF' ?k1 ?k2 ?_; (case k1 => exact rfl); (case k2 => exact rfl); k_whole)))

local macro_rules | `(tactic| walk_at "call ref") => `(tactic| (refine stop_here ?_))

theorem pow_eq (i : Nat) : ((2 : Int) ^ (0 + (i : Int)).toNat) = ((2 ^ i : Nat) : Int) := by
  have h0 : (0 + (i : Int)).toNat = i := by lia  
  rw [h0]; simp
theorem pow_size (i : Nat) : Builtin.Range.rangeSize 0 ((2 : Int) ^ (0 + (i : Int)).toNat) 1 = ((2 ^ i : Nat) : Int) := by
  rw [pow_eq]; exact range_size (by lia  )
theorem pow_small {i : Nat} (h : i ≤ 10) : Builtin.Range.small 0 ((2 : Int) ^ (0 + (i : Int)).toNat) 1 = true := by
  rw [pow_eq]
  have h2 : 2 ^ i ≤ 2 ^ 10 := Nat.pow_le_pow_right (by decide) h
  generalize 2 ^ i = q at h2
  exact range_small (by lia  ) (by lia  ) (by lia  ) (by lia  )
theorem item1 {x : Str} (h : x.length = 2) : Txt.item x 1 = S ((ls x).drop 1) := by
  rw [item_meets ⟨by decide, by lia  ⟩]
  apply str_ext
  rw [ls_S]
  show [x.cps.getD 1 0] = _
  obtain ⟨⟨l⟩⟩ := x
  obtain ⟨a, b, rfl⟩ := len_two h
  rfl
inductive LnI (g0 : Array GenState) (O : Prop) (pb : Addr) (R : List (Addr × Obj)) (xs : List Str) : List (Addr × Obj) → Array GenState → Prop
  | mk (ws : List Value) (kq : Nat) (hm : O) (hws : StrsAre ws xs) : LnI g0 O pb R xs ((pb, W.listOf ws.toArray kq) :: R) g0
theorem lnj_of {g0 g : Array GenState} {O : Prop} {pb : Addr} {R n : List (Addr × Obj)} {xs : List Str} (h : g = g0 ∧ O ∧ ∃ ws kq, n = (pb, W.listOf ws.toArray kq) :: R ∧ StrsAre ws xs) : LnI g0 O pb R xs n g := by
  obtain ⟨rfl, hm, ws, kq, rfl, hws⟩ := h
  exact .mk ws kq hm hws
theorem lnc_of {g0 g : Array GenState} {O : Prop} {pb : Addr} {R n : List (Addr × Obj)} {xs : List Str} (h : g = g0 ∧ (∃ ws kq, n = (pb, W.listOf ws.toArray kq) :: R ∧ StrsAre ws xs) ∧ O) : LnI g0 O pb R xs n g := by
  obtain ⟨rfl, ⟨ws, kq, rfl, hws⟩, hm⟩ := h
  exact .mk ws kq hm hws
theorem queue_len {p : List Nat} {C : List (List Nat)} {j : Nat} (hp : p.length = 2) (hC : C.length ≤ 32) : ((C.drop (j + 1)).map S ++ (C.take j).flatMap (stepF p)).length ≤ 100 := by
  have h2 : ((C.take j).flatMap (stepF p)).length = 2 * (C.take j).length := by
    rw [List.length_flatMap]
    have : (fun w => (stepF p w).length) = fun _ => 2 := by funext w; simp [stepF, hp]
    rw [this, List.map_const', List.sum_replicate_nat]; lia  
  rw [List.length_append, h2, List.length_map, List.length_drop, List.length_take]
  lia  
noncomputable def queueF (p : List Nat) (C : List (List Nat)) (j : Nat) : List Str := (C.drop j).map S ++ (C.take j).flatMap (stepF p)
theorem queue_start {p : List Nat} {C : List (List Nat)} {ws : List Value} (h : StrsAre ws (C.map S)) : StrsAre ws (queueF p C 0) := by
  unfold queueF; simpa using h
theorem strsAre_cons2 {vs : List Value} {x : Str} {xs : List Str} (h : StrsAre vs (x :: xs)) : ∃ t wr, vs = .str x t :: wr ∧ StrsAre wr xs := by
  cases h with
  | cons x t r => exact ⟨t, _, rfl, r⟩
theorem queue_get {p : List Nat} {C : List (List Nat)} {ws : List Value} {j : Nat} (h : StrsAre ws (queueF p C j)) (hj : j < C.length) : ∃ t vs, ws = .str (S C[j]) t :: vs ∧ StrsAre vs ((C.drop (j + 1)).map S ++ (C.take j).flatMap (stepF p)) := by
  unfold queueF at h
  rw [List.drop_eq_getElem_cons hj, List.map_cons, List.cons_append] at h
  exact strsAre_cons2 h
theorem off_eq2 {xs : List Str} {m₀ m m' : Str → Option Value} (h : Off xs m₀ m) (e : m = m') : Off xs m₀ m' := e ▸ h
theorem queue_end {p : List Nat} {i : Nat} : queueF p (choicesF p i) (choicesF p i).length = (choicesF p (i + 1)).map S := by
  unfold queueF
  rw [List.drop_length, List.take_length, List.map_nil, List.nil_append]
  simp only [choicesF, List.map_flatMap, List.map_map]; rfl
theorem pow_size2 (i : Nat) : Builtin.Range.rangeSize 0 ((2 : Int) ^ i) 1 = ((2 ^ i : Nat) : Int) := by
  have := pow_size i
  have h0 : (0 + (i : Int)).toNat = i := by lia  
  rwa [h0] at this
theorem pow_small2 {i : Nat} (h : i ≤ 5) : Builtin.Range.small 0 ((2 : Int) ^ i) 1 = true := by
  have e : ((2 : Int) ^ i) = ((2 ^ i : Nat) : Int) := by simp
  rw [e]
  have h2 : 2 ^ i ≤ 2 ^ 5 := Nat.pow_le_pow_right (by decide) h
  generalize 2 ^ i = q at h2
  exact range_small (by lia  ) (by lia  ) (by lia  ) (by lia  )
theorem queue_push {p : List Nat} {C : List (List Nat)} {vs : List Value} {j : Nat} (hp : p.length = 2) (h : StrsAre vs ((C.drop (j + 1)).map S ++ (C.take j).flatMap (stepF p))) (hj : j < C.length) (t u : Tok) :
    StrsAre (vs ++ [.str (S C[j] ++ S (p.take 1)) t] ++ [.str (S C[j] ++ S (p.drop 1)) u]) (queueF p C (j + 1)) := by
  have e : queueF p C (j + 1) = ((C.drop (j + 1)).map S ++ (C.take j).flatMap (stepF p)) ++ [S C[j] ++ S (p.take 1)] ++ [S C[j] ++ S (p.drop 1)] := by
    unfold queueF
    rw [List.take_add_one, List.getElem?_eq_getElem hj, List.flatMap_append]
    obtain ⟨a, b, rfl⟩ := len_two hp
    simp [stepF, S_append]
  rw [e]
  exact strsAre_snoc (strsAre_snoc h _ _) _ _

theorem line_ct (w : World) (mean : ExcName → Option Value) (mg mb : Str → Option Value) (news : List (Addr × Obj)) (x dx pb st : Addr) (k1 k2 k3 k4 tl tw : Tok) (ln : Int) (n : Nat) (k : Nat) (pair : Str) (t t2 : Tok) (size : Int) (hp : pair.length = 2) (hs1 : 4 ≤ size) (hs2 : size ≤ 6) (h1 : pb ≠ x) (h2 : pb ≠ dx) (h3 : x ≠ dx) (hpb : ∀ p ∈ news, p.1 ≠ pb) :
   Ct 8 w mean mg mb 113 ((pb, W.listOf ([] : List Value).toArray k) :: (x, instObj 66 dx) :: (dx, dictOf (lxE w k1 k2 k3 k4 tl tw ln st pb) n) :: news) [.ref x, .str pair t, .int size t2] (fun v news' g g' => g' = g ∧ ∃ D ws kd k', v = .ref D ∧ StrsAre ws ((choicesF (ls pair) (size - 1).toNat).map S) ∧ news' = (D, W.listOf ws.toArray kd) :: (pb, W.listOf ([] : List Value).toArray k') :: (x, instObj 66 dx) :: (dx, dictOf (lxE w k1 k2 k3 k4 tl tw ln st pb) n) :: news) := by
  w_top on
  w_on
  unfold Ct
  k_fill
  intro dp un gd cn cs a ccd cl outer A₀ base h₀ L m s Q E hB hF hX hN hT hK hDp hUn hret
  walk_at "my enter"
  rename Fr _ _ _ _ => FF
  rename_i gA Lc hA tkA FGA BA XA TA l1 oc d1 NA
  have FN := reframe (m' := fun y => if y = Str.ofString "size" then some (.int size t2) else if y = Str.ofString "pair" then some (.str pair t) else none) FF (by with_unfolding_all rfl)
  clear FF
  clear hF hN

  k_steps
  rename Fr _ _ _ _ => F0
  rename News _ _ _ _ => N0
  have dC := cell_said (v' := some (.ref x)) d1 (by with_unfolding_all rfl)
  clear d1
  have hcp : Lc + 1 ≠ pb := neN (by have := l1.1; lia  )
  have hR : ∀ p ∈ (Lc + 1, oc) :: news, p.1 ≠ pb := List.forall_mem_cons.mpr ⟨hcp, hpb⟩
  have N1 : News _ _ _ ((pb, W.listOf ([] : List Value).toArray k) :: (x, instObj 66 dx) :: (dx, dictOf (lxE w k1 k2 k3 k4 tl tw ln st pb) n) :: (Lc + 1, oc) :: news) := news_sub N0 (by walk_at "my sub")
  clear N0
  unfold Stop
  refine' Ct.useK (push_ct _ _ _ _ ((Lc + 1, oc) :: news) x dx pb st k1 k2 k3 k4 tl tw ln n [] _ _ h1 h2 h3 hR (Nat.zero_le _)) ?B ?F ?X ?N ?T ?K ?d ?u ?_
  walk_at "my uses"
  intro kq h' tk' F' N'
  dsimp only

  clear N1 F0
  k_steps
  rename IsRange _ _ _ _ _ _ _ _ => hr
  rename Fr _ _ _ _ => F0
  rename News _ _ _ _ => N0
  have hlp : (ls pair).length = 2 := by rw [ls_length, hp]
  refine' iter_rangeS (n := (size - 1).toNat) (fun i m' news' g => g = _ ∧ Off [Str.ofString "place", Str.ofString "turn", Str.ofString "word"] _ m' ∧ ∃ ws kq, news' = (pb, W.listOf ws.toArray kq) :: (x, instObj 66 dx) :: (dx, dictOf (lxE w k1 k2 k3 k4 tl tw ln st pb) n) :: (Lc + 1, oc) :: news ∧ StrsAre ws ((choicesF (ls pair) i).map S)) rfl hr (range_size (by lia  )) (range_small (by lia  ) (by lia  ) (by lia  ) (by lia  )) F0 N0 ⟨rfl, Off.refl, _, _, ?e0, ?h0⟩ ?step ?done
  case e0 => exact rfl
  case h0 => rw [item0 hp]; exact .cons _ _ .nil
  case step =>
    intro I i tv m₁ news₁ h tk g own hI hin hJ
    have hJI := lnj_of hJ
    clear hJ
    obtain ⟨ws, kq, hm, hws⟩ := hJI
    intro hoff hown hIlt F N
    have hpr : m₁ (Str.ofString "pair") = some (.str pair t) := hm _ (by decide)
    rw [frame_at hpr] at F
    simp only [List.cons_append] at N
    obtain ⟨hl1, hl2⟩ := choices_len (ls pair) hlp i
    have hwl : ws.length = 2 ^ i := by rw [hws.len_eq, List.length_map, hl1]
    have hp2 : 2 ^ i ≤ 2 ^ 5 := Nat.pow_le_pow_right (by decide) (by lia  )
    clear hr F0 N0
    dsimp only
    k_steps
    rename IsRange _ _ _ _ _ _ _ _ => hr2
    rename Fr _ _ _ _ => F1
    rename News _ _ _ _ => N1
    dsimp only at F1
    have hcl := hl1
    have hoI : pb ≠ I := hoff _ (.head _)
    have hR2 : ∀ p ∈ (Lc + 1, oc) :: (news ++ own), p.1 ≠ pb := List.forall_mem_cons.mpr ⟨hcp, fun p hp => (List.mem_append.mp hp).elim (hpb p) fun q => by rw [hown p q]; exact Ne.symm hoI⟩
    refine' iter_rangeS (n := 2 ^ i) (fun j m' news' g => g = _ ∧ Off [Str.ofString "turn", Str.ofString "word"] _ m' ∧ ∃ ws kq, news' = (pb, W.listOf ws.toArray kq) :: (x, instObj 66 dx) :: (dx, dictOf (lxE w k1 k2 k3 k4 tl tw ln st pb) n) :: (Lc + 1, oc) :: (news ++ own) ∧ StrsAre ws (queueF (ls pair) (choicesF (ls pair) i) j)) rfl hr2 (pow_size i) (pow_small (by lia  )) F1 N1 ⟨rfl, Off.refl, _, _, ?e0, ?h0⟩ ?step2 ?done2
    case e0 => exact rfl
    case h0 => exact queue_start hws
    case step2 =>
      intro I2 j tv2 m₂ news₂ h tk g own2 hI2 hin2 hJ
      have hJI := lnj_of hJ
      clear hJ
      obtain ⟨ws2, kq2, hm2, hws2⟩ := hJI
      intro hoff2 hown2 hIlt2 F N
      have hpr2 : m₂ (Str.ofString "pair") = some (.str pair t) := hm2 _ (by decide)
      rw [frame_at hpr2] at F
      simp only [List.cons_append] at N
      have hjC : j < (choicesF (ls pair) i).length := by rw [hl1]; exact hin2
      obtain ⟨t5, vs, rfl, hvs⟩ := queue_get hws2 hjC
      obtain ⟨xw, hxw⟩ : ∃ xw, xw = S (choicesF (ls pair) i)[j] := ⟨_, rfl⟩
      rw [← hxw] at N hoff2 hws2
      have hxl : xw.length ≤ 7 := by rw [hxw, S_length, hl2 _ (List.getElem_mem _)]; lia  
      have hoI2 : pb ≠ I2 := hoff2 _ (.head _)
      have hR3 : ∀ p ∈ (Lc + 1, oc) :: ((news ++ own) ++ own2), p.1 ≠ pb := List.forall_mem_cons.mpr ⟨hcp, fun p hp => (List.mem_append.mp hp).elim (fun q => hR2 p (.tail _ q)) fun q => by rw [hown2 p q]; exact Ne.symm hoI2⟩
      clear hr2 F1 N1
      have hlen2 : vs.length ≤ 100 := by rw [hvs.len_eq]; exact queue_len hlp (by rw [hl1]; lia  )
      dsimp only
      k_steps
      unfold Stop
      refine' Ct.useK (get_ct _ _ _ _ ((Lc + 1, oc) :: ((news ++ own) ++ own2)) x dx pb st k1 k2 k3 k4 tl tw ln n vs _ _ h1 h2 h3 hR3 (by lia  )) ?B ?F ?X ?N ?T ?K ?d ?u ?_
      walk_at "my uses"
      intro kq h' tk' F' N'
      dsimp only

      k_steps
      unfold Stop
      refine' Ct.useK (push_ct _ _ _ _ ((Lc + 1, oc) :: ((news ++ own) ++ own2)) x dx pb st k1 k2 k3 k4 tl tw ln n vs _ _ h1 h2 h3 hR3 (by lia  )) ?B ?F ?X ?N ?T ?K ?d ?u ?_
      walk_at "my uses"
      intro kq h' tk' F' N'
      dsimp only

      k_steps
      unfold Stop
      refine' Ct.useK (push_ct _ _ _ _ ((Lc + 1, oc) :: ((news ++ own) ++ own2)) x dx pb st k1 k2 k3 k4 tl tw ln n (vs ++ [_]) _ _ h1 h2 h3 hR3 (by rw [List.length_append]; simp; lia  )) ?B ?F ?X ?N ?T ?K ?d ?u ?_
      walk_at "my uses"
      intro kq h' tk' F' N'
      dsimp only

      k_steps
      refine ⟨_, _, _, _, (pb, W.listOf (vs ++ [_] ++ [_]).toArray _) :: (x, instObj 66 dx) :: (dx, dictOf (lxE w k1 k2 k3 k4 tl tw ln st pb) n) :: (Lc + 1, oc) :: (news ++ own), rfl, by k_asm, by k_asm, ?off, rfl, ?offm, _, _, rfl, ?q⟩
      case off =>
        intro p hp
        rcases List.mem_cons.mp hp with rfl | hp
        · exact fun q => hoI2 (List.mem_singleton.mp q)
        · exact fun q => hoff2 p (.tail _ hp) (List.mem_singleton.mp q)
      case offm => exact Off.put (Off.put (off_eq2 hm2 (frame_at hpr2)) (by simp)) (by simp)
      case q =>
        rw [item0 hp, item1 hp, hxw]
        exact queue_push hlp hvs hjC _ _
    case done2 =>
      intro h' tk g m' news' F N hJ
      have hJI := lnj_of hJ
      clear hJ
      obtain ⟨ws2, kq2, hm2, hws2⟩ := hJI
      clear hr2 F1 N1
      dsimp only
      k_steps
      refine ⟨_, _, _, _, (pb, W.listOf ws2.toArray _) :: (x, instObj 66 dx) :: (dx, dictOf (lxE w k1 k2 k3 k4 tl tw ln st pb) n) :: (Lc + 1, oc) :: news, rfl, by k_asm, by k_asm, ?off, rfl, ?offm, _, _, rfl, ?q⟩
      case off =>
        intro p hp
        rcases List.mem_cons.mp hp with rfl | hp
        · exact fun q => hoI (List.mem_singleton.mp q)
        · exact fun q => hoff p (.tail _ hp) (List.mem_singleton.mp q)
      case offm =>
        intro z hz
        rw [hm2 z (fun q => hz (.tail _ q))]
        have hz1 : z ≠ Str.ofString "place" := fun e => hz (by simp [e])
        show (if z = Str.ofString "place" then _ else if z = Str.ofString "pair" then _ else m₁ z) = _
        rw [if_neg hz1]
        have := congrFun (frame_at hpr) z
        rw [← this]
        exact hm z hz
      case q => rw [← queue_end, hl1]; exact hws2
  case done =>
    intro h' tk g m' news' F N hJ
    have hJI := lnj_of hJ
    clear hJ
    obtain ⟨ws, kq, hm, hws⟩ := hJI
    have hsz : m' (Str.ofString "size") = some (.int size t2) := hm _ (by decide)
    rw [frame_at hsz] at F
    clear hr F0 N0
    dsimp only
    k_steps
    rename IsRange _ _ _ _ _ _ _ _ => hr3
    rename Fr _ _ _ _ => F1
    rename News _ _ _ _ => N1
    obtain ⟨hl1, hl2⟩ := choices_len (ls pair) hlp (size - 1).toNat
    have hn5 : (size - 1).toNat ≤ 5 := by lia  
    have hn32 : 2 ^ (size - 1).toNat ≤ 2 ^ 5 := Nat.pow_le_pow_right (by decide) hn5
    have hn33 : 2 ^ (size - 1).toNat ≤ 32 := hn32
    refine' citer_range (n := 2 ^ (size - 1).toNat) (fun _ _ => true) (fun i ys news' g => g = _ ∧ (∃ ws kq, news' = (pb, W.listOf ws.toArray kq) :: (x, instObj 66 dx) :: (dx, dictOf (lxE w k1 k2 k3 k4 tl tw ln st pb) n) :: (Lc + 1, oc) :: news ∧ StrsAre ws (((choicesF (ls pair) (size - 1).toNat).drop i).map S)) ∧ StrsAre ys (((choicesF (ls pair) (size - 1).toNat).take i).map S)) rfl hr3 (pow_size2 _) (pow_small2 hn5) F1 N1 ?hsz ⟨rfl, ⟨_, _, rfl, by rw [List.drop_zero]; exact hws⟩, .nil⟩ ?skip ?tests ?elt3 ?done3
    case hsz => lia  
    case skip => intro i t ys news₁ g _ q; exact absurd q (by decide)
    case tests => intro C D I i tv ys news₁ h tk g own mC _ _ _ _ _ _ _ F N _ _ E'; exact wpAny_pure ⟨rfl, _, _, rfl, F, N⟩
    case elt3 =>
      intro C D I3 i tv ys news₁ h tk g own mC hC hD hI3 hi _ hJ
      have hJI := lnc_of hJ
      clear hJ
      obtain ⟨ws3, kq3, hys, hws3⟩ := hJI
      intro hoff hown F N hn hmC E'
      have cE := InElt.start h
      clear hr3 F1 N1
      have hjC : i < (choicesF (ls pair) (size - 1).toNat).length := by rw [hl1]; exact hi
      rw [List.drop_eq_getElem_cons hjC, List.map_cons] at hws3
      obtain ⟨t5, vs, rfl, hvs⟩ := strsAre_cons2 hws3
      have hv100 : vs.length ≤ 100 := by rw [hvs.len_eq, List.length_map, List.length_drop, hl1]; lia  
      have ho3 := hoff (pb, _) (.head _)
      have hR3 : ∀ p ∈ (Lc + 1, oc) :: (news ++ own), p.1 ≠ pb := List.forall_mem_cons.mpr ⟨hcp, fun p hp => (List.mem_append.mp hp).elim (hpb p) fun q e => ho3 (by have := hown p q; rw [e] at this; exact this)⟩
      dsimp only
      k_steps
      unfold Stop
      refine' Ct.useK (get_ct _ _ _ _ ((Lc + 1, oc) :: (news ++ own)) x dx pb st k1 k2 k3 k4 tl tw ln n vs _ _ h1 h2 h3 hR3 (by lia  )) ?B ?F ?X ?N ?T ?K ?d ?u ?_
      walk_at "my uses"
      intro kq h' tk' F' N'
      dsimp only

      k_steps
      refine ⟨_, _, _, (pb, W.listOf vs.toArray _) :: (x, instObj 66 dx) :: (dx, dictOf (lxE w k1 k2 k3 k4 tl tw ln st pb) n) :: (Lc + 1, oc) :: news, rfl, by k_asm, by k_asm, ?off, rfl, ⟨_, _, rfl, hvs⟩, ?ys⟩
      case off =>
        intro p hp
        rcases List.mem_cons.mp hp with rfl | hp
        · exact ho3
        · exact hoff p (.tail _ hp)
      case ys =>
        rw [List.take_add_one, List.getElem?_eq_getElem hjC, List.map_append]
        exact strsAre_snoc hys _ _
    case done3 =>
      intro D h' tk g news' ys kd hD F N hoff hJ
      have hJI := lnc_of hJ
      clear hJ
      obtain ⟨ws3, kq3, hys, hws3⟩ := hJI
      clear hr3 F1 N1
      rw [← hl1, List.drop_length] at hws3
      rw [← hl1, List.take_length] at hys
      cases hws3
      dsimp only
      k_steps
      walk_at "my leave"
      exact hret _ _ _ _ _ ⟨rfl, D, ys, kd, kq3, rfl, hys, rfl⟩ (by k_asm) (news_sub (by k_asm) (by walk_at "my sub"))
end
section
open PySem PySem.W PyProof.Rows
open PySem.Builtin PySem.Builtin.Str
set_option maxRecDepth 100000
set_option maxHeartbeats 8000000



local macro_rules | `(tactic| walk_at "call type:enumerate") => `(tactic| (refine stop_here ?_))

theorem reord2 {h₀ h : Heap} {L : Addr} {own r : List (Addr × Obj)} {d e : Addr × Obj} {sz : Nat} (N : News h₀ L h (own ++ d :: e :: r)) (h1 : ∀ p ∈ own, LE.le (α := Nat) sz p.1 ∨ p.1 = d.1) (hl : e.1 < sz) (hd : e.1 < d.1) (hr : ∀ p ∈ r, p.1 ≠ e.1) :
    News h₀ L h (e :: (own ++ d :: r)) ∧ ∀ p ∈ own ++ d :: r, p.1 ≠ e.1 := by
  refine ⟨news_sub N fun p hp => ?_, fun p hp => ?_⟩
  · rcases List.mem_cons.mp hp with rfl | hp
    · exact List.mem_append_right _ (.tail _ (.head _))
    · rcases List.mem_append.mp hp with hp | hp
      · exact List.mem_append_left _ hp
      · rcases List.mem_cons.mp hp with rfl | hp
        · exact List.mem_append_right _ (.head _)
        · exact List.mem_append_right _ (.tail _ (.tail _ hp))
  · rcases List.mem_append.mp hp with hp | hp
    · rcases h1 p hp with q | q
      · exact Nat.ne_of_gt (Nat.lt_of_lt_of_le hl q)
      · rw [q]; exact Nat.ne_of_gt hd
    · rcases List.mem_cons.mp hp with rfl | hp
      · exact Nat.ne_of_gt hd
      · exact hr p hp
theorem off_eq3 {xs : List Str} {m₀ m m' : Str → Option Value} (h : Off xs m₀ m) (e : m = m') : Off xs m₀ m' := e ▸ h
theorem pair_back2 {m₁ m : Str → Option Value} {xi xc : Str} {v w : Option Value} (h : Off [xi, xc] m m₁) : Off [xi, xc] m (fun y => if y = xc then v else if y = xi then w else m₁ y) := pair_back h
theorem reord_back {h₀ h : Heap} {L : Addr} {own r : List (Addr × Obj)} {d e : Addr × Obj} (N : News h₀ L h (e :: (own ++ d :: r))) : News h₀ L h (own ++ d :: e :: r) := news_sub N fun p hp => by
  rcases List.mem_append.mp hp with hp | hp
  · exact .tail _ (List.mem_append_left _ hp)
  · rcases List.mem_cons.mp hp with rfl | hp
    · exact .tail _ (List.mem_append_right _ (.head _))
    · rcases List.mem_cons.mp hp with rfl | hp
      · exact .head _
      · exact .tail _ (List.mem_append_right _ (.tail _ hp))

inductive SumL (l : Addr) (news : List (Addr × Obj)) : List (Addr × Obj) → Prop
  | mk (a b c : Int) (ta tb tc : Tok) (k : Nat) (ha : 0 ≤ a ∧ a ≤ 100000000) (hb : 0 ≤ b ∧ b ≤ 100000000) (hc : 0 ≤ c ∧ c ≤ 100000000) : SumL l news ((l, W.listOf [.int a ta, .int b tb, .int c tc].toArray k) :: news)
inductive SumJ (l : Addr) (M : Int) (q : Addr × Obj) (news : List (Addr × Obj)) : List (Addr × Obj) → Prop
  | mk (a b c : Int) (ta tb tc : Tok) (k : Nat) (ha : 0 ≤ a ∧ a ≤ M) (hb : 0 ≤ b ∧ b ≤ M) (hc : 0 ≤ c ∧ c ≤ M) : SumJ l M q news (q :: (l, W.listOf [.int a ta, .int b tb, .int c tc].toArray k) :: news)
theorem sums_ct (w : World) (mean : ExcName → Option Value) (mg mb : Str → Option Value) (news : List (Addr × Obj)) (sc l : Addr) (vs : List Value) (ns : List Int) (k : Nat) (a b c : Int) (ta tb tc : Tok) (hi : IntsAre vs ns) (hn : ns.length ≤ 63) (ha : 0 ≤ a ∧ a ≤ 10000) (hb : 0 ≤ b ∧ b ≤ 10000) (hc : 0 ≤ c ∧ c ≤ 10000) (hl : ∀ p ∈ news, p.1 ≠ l) :
   CtP 8 w mean mg mb (fun h => h.IsList sc vs.toArray) 77 ((l, W.listOf [.int a ta, .int b tb, .int c tc].toArray k) :: news) [.ref sc, .ref l]
     (fun v news' g g' => g' = g ∧ v = .ref l ∧ SumL l news news') := by
  w_top on
  w_on
  unfold CtP
  k_fill
  intro dp un gd cn cs a1 ccd cl outer A₀ base h₀ L m s Q E hP hB hF hX hN hT hK hDp hUn hret
  replace hP : h₀.IsList sc vs.toArray := hP
  walk_at "my enter"
  rename Fr _ _ _ _ => FF
  clear hF hN
  rename Fr h₀ L _ m => FG
  have hP' := hP.at fun o e => FG.keep sc o e

  have FN := reframe (m' := fun y => if y = Str.ofString "sums" then some (.ref l) else if y = Str.ofString "script" then some (.ref sc) else none) FF (by with_unfolding_all exact look2 _ _ _ _)
  clear FF
  k_steps
  unfold Stop
  rename Fr _ _ _ _ => F0
  rename News _ _ _ _ => N0
  rename IntsAre _ (List.take 60 ns) => hI
  rename List Value => ws0
  rename (_ ∧ AllLt _ _) => l1
  have hls := Heap.lt_size (N0 _ (.tail _ (.head _))).1
  refine' enum_loop (fun i m₁ news₁ => Off [Str.ofString "place", Str.ofString "number"] _ m₁ ∧ SumJ l (10000 + 1000003 * (i : Int)) (_, _) news news₁) rfl F0 N0 (.head _) ⟨Off.refl, a, b, c, ta, tb, tc, k, by lia  , by lia  , by lia  ⟩ ?step ?done
  case step =>
    rintro i v ti m₁ news₁ h tk own hv ⟨hm, a', b', c', ta', tb', tc', k', ha', hb', hc'⟩ hadr hown F N
    obtain ⟨z, tz, rfl, hz⟩ := ints_item hI hv
    have hsu : m₁ (Str.ofString "sums") = some (.ref l) := hm _ (by decide)
    rw [frame_at hsu] at F
    obtain ⟨N1, hne⟩ := reord2 N hown hls l1.1 hl
    clear F0 N0 N
    have hmod : (i : Int).fmod 3 = 0 ∨ (i : Int).fmod 3 = 1 ∨ (i : Int).fmod 3 = 2 := by
      rw [Int.fmod_eq_emod_of_nonneg _ (by decide)]; lia  
    have hi60 : i < 60 := by
      have := (List.getElem?_eq_some_iff.mp hz).1
      rw [List.length_take] at this; lia  
    have hz0 : 0 ≤ z.fmod 1000003 := Int.fmod_nonneg_of_pos _ (by decide)
    have hz1 : z.fmod 1000003 < 1000003 := Int.fmod_lt_of_pos _ (by decide)
    dsimp only
    k_steps
    rcases hmod with hmod | hmod | hmod
    all_goals rw [hmod]
    · k_steps
      refine ⟨rfl, _, _, _, _ :: (l, W.listOf [.int (a' + z.fmod 1000003) _, .int b' _, .int c' _].toArray _) :: news, rfl, by k_asm, reord_back (by k_asm), rfl, pair_back2 (off_eq3 hm (frame_at hsu)), (a' + z.fmod 1000003), b', c', _, _, _, _, by lia  , by lia  , by lia  ⟩
    · k_steps
      refine ⟨rfl, _, _, _, _ :: (l, W.listOf [.int a' _, .int (b' + z.fmod 1000003) _, .int c' _].toArray _) :: news, rfl, by k_asm, reord_back (by k_asm), rfl, pair_back2 (off_eq3 hm (frame_at hsu)), a', (b' + z.fmod 1000003), c', _, _, _, _, by lia  , by lia  , by lia  ⟩
    · k_steps
      refine ⟨rfl, _, _, _, _ :: (l, W.listOf [.int a' _, .int b' _, .int (c' + z.fmod 1000003) _].toArray _) :: news, rfl, by k_asm, reord_back (by k_asm), rfl, pair_back2 (off_eq3 hm (frame_at hsu)), a', b', (c' + z.fmod 1000003), _, _, _, _, by lia  , by lia  , by lia  ⟩
  case done =>
    rintro h' tk m' news' F N _ ⟨hm, a', b', c', ta', tb', tc', k', ha', hb', hc'⟩
    have hsu : m' (Str.ofString "sums") = some (.ref l) := hm _ (by decide)
    rw [frame_at hsu] at F
    have hlen : ws0.length ≤ 60 := by rw [hI.length, List.length_take]; lia  
    clear F0 N0
    dsimp only
    k_steps
    walk_at "my leave"
    exact hret _ _ _ _ _ ⟨rfl, rfl, a', b', c', ta', tb', tc', k', by lia  , by lia  , by lia  ⟩ (by k_asm) (news_sub (by k_asm) (by walk_at "my sub"))
end
section
open PySem PySem.W PyProof.Rows
open PySem.Builtin PySem.Builtin.Str
set_option maxRecDepth 100000
set_option maxHeartbeats 8000000

/-- the law's end: True is told, what lay there lies there, tables of code have grown at most -/
noncomputable def Fin1 (h₀ : Heap) (os : OsState) (tabs : List (Addr × Addr)) (r : Result) (s' : Shared) : Prop :=
  r = .ok (.ret (.bool true)) ∧ (∀ b o, h₀.get? b = some o → s'.heap.get? b = some o) ∧ s'.os = os ∧ AllBare s'.gens ∧ GrownAll tabs s'.heap
theorem lw_post {M : Model} {A : Around} {cd : Code} {s s₁ : Shared} {cw : ClaimW} {cl : Str → Option Addr} {mean : ExcName → Option Value} {args : List WData} {tabs : List (Addr × Addr)} (hT : TabsAt tabs s₁.heap) (hr : ∀ x, cw.raises args x = false)
    (hp : cw.post args (.bool true) args = true) (h : codeAny M A cd (Fin1 (ghostOf s₁.heap tabs) s₁.os tabs) s) : codeAny M A cd (GoodWG cw cl mean args s₁) s := by
  refine codeAny_mono h ?_
  rintro r s' ⟨rfl, hk, ho, hb, hg⟩
  have away : ∀ b o, s₁.heap.get? b = some o → b ∉ tabs.map (·.2) → s'.heap.get? b = some o := fun b o e hn => hk b o (ghost_ne e hn)
  have onTab : ∀ b o, s₁.heap.get? b = some o → b ∈ tabs.map (·.2) → isCodeTable s₁.heap b ∧ o = tabObj #[] ∧ ∃ ps, s'.heap.get? b = some (tabObj ps) := by
    intro b o e hm
    obtain ⟨q, hq, rfl⟩ := List.mem_map.mp hm
    obtain ⟨c1, c2⟩ := hT q hq
    refine ⟨(c1.tab c2).isCodeTable, ?_, hg.get q hq⟩
    rw [e] at c2
    exact Option.some.inj c2
  refine ⟨.inl ⟨_, _, [], rfl, hr, ReadsW.bool true, hp, fun _ => ⟨List.nodup_nil, fun _ hm => (nomatch hm)⟩⟩, ⟨fun b o e => ?_, fun b o e => ?_⟩, ho, hb⟩
  · by_cases hm : b ∈ tabs.map (·.2)
    · obtain ⟨c, rfl, ps, hps⟩ := onTab b o e hm
      exact .inr (.inl ⟨c, rfl, #[], ps, rfl, by rw [hps, Array.empty_append]⟩)
    · exact .inl (away b o e hm)
  · by_cases hm : b ∈ tabs.map (·.2)
    · obtain ⟨_, _, ps, hps⟩ := onTab b o e hm
      exact ⟨_, hps⟩
    · exact ⟨_, away b o e hm⟩
/-- the two ends of a walk as names, so that no step copies them -/
theorem abs_qe {M : Model} {A : Around} {α : Type} {c : Sem α} {Q : α → Shared → Prop} {E : Value → Shared → Prop} {s : Shared} (h : let qk := Q; let ek := E; wpAny M A c qk ek s) : wpAny M A c Q E s := h
end
section
open PySem PySem.W PyProof.Rows
open PySem.Builtin PySem.Builtin.Str
set_option maxRecDepth 100000
set_option maxHeartbeats 8000000

/-! what is written is read -/
theorem inQ_cons {c e : Nat} {r tok : List Nat} : inQ (c :: e :: r) tok = if c = 34 then some (tok, e :: r) else if c = 92 then inQ r (tok ++ [e]) else inQ (e :: r) (tok ++ [c]) := by rw [inQ]
theorem inQ_written (w : List Nat) : ∀ (tok R : List Nat), inQ (w.flatMap escQ ++ 34 :: R) tok = some (tok ++ w, R) := by
  induction w with
  | nil =>
    intro tok R
    rw [List.flatMap_nil, List.nil_append, List.append_nil]
    cases R with
    | nil => rw [inQ, if_pos rfl]
    | cons e r => rw [inQ_cons, if_pos rfl]
  | cons c w ih =>
    intro tok R
    rw [List.flatMap_cons, List.append_assoc]
    have e : tok ++ c :: w = (tok ++ [c]) ++ w := by rw [List.append_assoc]; rfl
    rw [e, ← ih (tok ++ [c]) R]
    by_cases h : c = 34 ∨ c = 92
    · have : escQ c = [92, c] := if_pos h
      rw [this]
      show inQ (92 :: c :: (w.flatMap escQ ++ 34 :: R)) tok = _
      rw [inQ_cons, if_neg (by decide), if_pos rfl]
    · have : escQ c = [c] := if_neg h
      rw [this]
      show inQ (c :: (w.flatMap escQ ++ 34 :: R)) tok = _
      obtain ⟨f, g, hf⟩ : ∃ f g, w.flatMap escQ ++ 34 :: R = f :: g := by
        cases hx : w.flatMap escQ with
        | nil => exact ⟨34, R, rfl⟩
        | cons f g => exact ⟨f, g ++ 34 :: R, rfl⟩
      rw [hf, inQ_cons, if_neg (fun q => h (.inl q)), if_neg (fun q => h (.inr q))]
theorem inB_cons {c e : Nat} {r tok : List Nat} : inB (c :: e :: r) tok = if isWs c then some (tok, e :: r) else if c = 92 then inB r (tok ++ [e]) else inB (e :: r) (tok ++ [c]) := by rw [inB]
theorem wsAt_ws (i : Int) : isWs (wsAt i) = true := by
  unfold wsAt
  split
  · decide
  · split
    · decide
    · split <;> decide
theorem inB_written (w : List Nat) (s : Nat) (hs : isWs s = true) : ∀ (tok R : List Nat), inB (w.flatMap escB ++ s :: R) tok = some (tok ++ w, R) := by
  induction w with
  | nil =>
    intro tok R
    rw [List.flatMap_nil, List.nil_append, List.append_nil]
    cases R with
    | nil => rw [inB, if_pos hs]
    | cons e r => rw [inB_cons, if_pos hs]
  | cons c w ih =>
    intro tok R
    have e : tok ++ c :: w = (tok ++ [c]) ++ w := by rw [List.append_assoc]; rfl
    rw [e, ← ih (tok ++ [c]) R]
    show inB (92 :: c :: (w.flatMap escB ++ s :: R)) tok = _
    rw [inB_cons, if_neg (by decide), if_pos rfl]
theorem rdT_cons {c e : Nat} {r : List Nat} : rdT (c :: e :: r) = if isWs c then none else if c = 34 then inQ (e :: r) [] else if c = 92 then inB r [e] else inB (e :: r) [c] := by rw [rdT]
theorem rdT_written {w : List Nat} (hw : w ≠ []) (way : Int) (R : List Nat) : rdT (writtenF w way ++ R) = some (w, R) := by
  unfold writtenF
  split
  · have e : [34] ++ w.flatMap escQ ++ [34] ++ R = 34 :: (w.flatMap escQ ++ 34 :: R) := by simp
    rw [e]
    obtain ⟨f, g, hf⟩ : ∃ f g, w.flatMap escQ ++ 34 :: R = f :: g := by
      cases hx : w.flatMap escQ with
      | nil => exact ⟨34, R, rfl⟩
      | cons f g => exact ⟨f, g ++ 34 :: R, rfl⟩
    rw [hf, rdT_cons, if_neg (by decide), if_pos rfl, ← hf, inQ_written, List.nil_append]
  · cases w with
    | nil => exact absurd rfl hw
    | cons c w =>
      have e : (c :: w).flatMap escB ++ [wsAt ((way.fdiv 2).fmod 4)] ++ R = 92 :: c :: (w.flatMap escB ++ wsAt ((way.fdiv 2).fmod 4) :: R) := by simp [escB]
      rw [e, rdT_cons, if_neg (by decide), if_neg (by decide), if_pos rfl, inB_written w _ (wsAt_ws _)]; rfl
/-- the four tokens, and what is left behind each -/
noncomputable def tokAt (a b c : List Nat) : Nat → List Nat
  | 0 => a | 1 => b | 2 => c | _ => []
noncomputable def leftAt (A B C : List Nat) : Nat → List Nat
  | 0 => A ++ B ++ C | 1 => B ++ C | 2 => C | _ => []
theorem reads4 {a b c : List Nat} (ha : a ≠ []) (hb : b ≠ []) (hc : c ≠ []) (x y z : Int) {i : Nat} (hi : i < 4) :
    rdT (leftAt (writtenF a x) (writtenF b y) (writtenF c z) i) = some (tokAt a b c i, leftAt (writtenF a x) (writtenF b y) (writtenF c z) (i + 1)) := by
  match i, hi with
  | 0, _ => show rdT (writtenF a x ++ writtenF b y ++ writtenF c z) = _; rw [List.append_assoc, rdT_written ha]; rfl
  | 1, _ => exact rdT_written hb _ _
  | 2, _ => show rdT (writtenF c z) = _; rw [← List.append_nil (writtenF c z), rdT_written hc]; rfl
  | 3, _ => rfl
/-- the ledger's tail may be longer -/
theorem LXS.app {w : World} {k1 k2 k3 k4 tw : Tok} {x dx pb st ds rd cc cell lf : Addr} {ods ost ord occ ocell : Obj} {K : Int} {R own led : List (Addr × Obj)} {xs : List Str} (h : LXS w k1 k2 k3 k4 tw x dx pb st ds rd cc cell lf ods ost ord occ ocell K R xs led) :
    LXS w k1 k2 k3 k4 tw x dx pb st ds rd cc cell lf ods ost ord occ ocell K (R ++ own) xs (led ++ own) := by
  obtain ⟨h1, tl, ln, n, kl, ys, hy, hK, rfl⟩ := h
  exact ⟨h1, tl, ln, n, kl, ys, hy, hK, rfl⟩
theorem LXS.cut {w : World} {k1 k2 k3 k4 tw : Tok} {x dx pb st ds rd cc cell lf : Addr} {ods ost ord occ ocell : Obj} {K : Int} {R own led : List (Addr × Obj)} {xs : List Str} (h : LXS w k1 k2 k3 k4 tw x dx pb st ds rd cc cell lf ods ost ord occ ocell K (R ++ own) xs led) :
    ∃ led', LXS w k1 k2 k3 k4 tw x dx pb st ds rd cc cell lf ods ost ord occ ocell K R xs led' ∧ led = led' ++ own := by
  obtain ⟨h1, tl, ln, n, kl, ys, hy, hK, rfl⟩ := h
  exact ⟨_, ⟨h1, tl, ln, n, kl, ys, hy, hK, rfl⟩, rfl⟩
theorem signs_S (l : List Nat) : signs (S l) = l.map sg := rfl
end
section
open PySem PySem.W PyProof.Rows
open PySem.Builtin PySem.Builtin.Str
set_option maxRecDepth 100000
set_option maxHeartbeats 8000000

theorem str_said {o : Obj} {x : Str} {t : Tok} (h : o.data = .cell (some (.str x t))) : ∃ t', o.data = .cell (some (.str x t')) := ⟨t, h⟩
theorem size_said (a b c : Int) {oz : Obj} {tz tm : Tok} {G0 h : Heap} {LL R : Addr} {m : Str → Option Value} {t u v : Tok}
    (dz : oz.data = .cell (some (.int (4 + ([a, b, c].getD (Int.toNat 1) 0).fmod 3) tz)))
    (F : Fr G0 LL h (fun y => if y = Str.ofString "many" then some (.int (1 + (([a, b, c].getD (Int.toNat 1) 0).fdiv 3).fmod (4 + ([a, b, c].getD (Int.toNat 1) 0).fmod 3)) tm) else m y))
    (hr : IsRange h R 0 (1 + (([a, b, c].getD (Int.toNat 1) 0).fdiv 3).fmod (4 + ([a, b, c].getD (Int.toNat 1) 0).fmod 3)) 1 t u v) :
    ∃ (size many : Int) (tz' tm' : Tok), (4 ≤ size ∧ size ≤ 6) ∧ (1 ≤ many ∧ many ≤ size) ∧ oz.data = .cell (some (.int size tz')) ∧
      Fr G0 LL h (fun y => if y = Str.ofString "many" then some (.int many tm') else m y) ∧ IsRange h R 0 many 1 t u v := by
  have hs4 : 4 ≤ 4 + ([a, b, c].getD (Int.toNat 1) 0).fmod 3 ∧ 4 + ([a, b, c].getD (Int.toNat 1) 0).fmod 3 ≤ 6 := by
    have h0 := Int.fmod_nonneg_of_pos ([a, b, c].getD (Int.toNat 1) 0) (show (0 : Int) < 3 by decide)
    have h1 := Int.fmod_lt_of_pos ([a, b, c].getD (Int.toNat 1) 0) (show (0 : Int) < 3 by decide)
    lia  
  refine ⟨_, _, tz, tm, hs4, ?_, dz, F, hr⟩
  generalize 4 + ([a, b, c].getD (Int.toNat 1) 0).fmod 3 = size at hs4
  have h0 := Int.fmod_nonneg_of_pos (([a, b, c].getD (Int.toNat 1) 0).fdiv 3) (show (0 : Int) < size by lia  )
  have h1 := Int.fmod_lt_of_pos (([a, b, c].getD (Int.toNat 1) 0).fdiv 3) (show (0 : Int) < size by lia  )
  lia  
/-- the row of signs -/
noncomputable def rowL : List Nat := [9, 10, 32, 34, 35, 77, 92, 122]
theorem row_S : Str.ofString "\t\n \"#M\\z" = S rowL := by decide +kernel
theorem row_item (i : Int) (h0 : 0 ≤ i) (h8 : i < 8) : ∃ d ∈ rowL, Txt.item (Str.ofString "\t\n \"#M\\z") i = sg d := by
  have : i = 0 ∨ i = 1 ∨ i = 2 ∨ i = 3 ∨ i = 4 ∨ i = 5 ∨ i = 6 ∨ i = 7 := by lia  
  rcases this with h | h | h | h | h | h | h | h <;> subst h
  · exact ⟨9, by decide, by decide +kernel⟩
  · exact ⟨10, by decide, by decide +kernel⟩
  · exact ⟨32, by decide, by decide +kernel⟩
  · exact ⟨34, by decide, by decide +kernel⟩
  · exact ⟨35, by decide, by decide +kernel⟩
  · exact ⟨77, by decide, by decide +kernel⟩
  · exact ⟨92, by decide, by decide +kernel⟩
  · exact ⟨122, by decide, by decide +kernel⟩
theorem pow4_ne (i : Nat) : ((4 : Int) ^ (0 + (i : Int)).toNat) ≠ 0 := Int.ne_of_gt (Int.pow_pos (by decide))
theorem flat_sg (cs : List Nat) : (cs.map sg).flatMap ls = cs := by
  induction cs with
  | nil => rfl
  | cons a l ih => rw [List.map_cons, List.flatMap_cons, ih]; rfl
theorem pow4_le {i : Nat} (h : i < 6) : 0 < ((4 : Int) ^ (0 + (i : Int)).toNat) ∧ ((4 : Int) ^ (0 + (i : Int)).toNat) ≤ 1024 := by
  have h0 : (0 + (i : Int)).toNat = i := by lia  
  rw [h0]
  have : i = 0 ∨ i = 1 ∨ i = 2 ∨ i = 3 ∨ i = 4 ∨ i = 5 := by lia  
  rcases this with h | h | h | h | h | h <;> subst h <;> decide
theorem sg_snoc {ys : List Value} {cs : List Nat} {y : Str} {t : Tok} {d : Nat} (h : StrsAre ys (cs.map sg)) (e : y = sg d) : StrsAre (ys ++ [.str y t]) ((cs ++ [d]).map sg) := by
  rw [List.map_append, e]; exact strsAre_snoc h _ _
theorem sg_sum (cs : List Nat) : ((cs.map sg).map (·.length)).sum = cs.length := by
  induction cs with
  | nil => rfl
  | cons a l ih => rw [List.map_cons, List.map_cons, List.sum_cons, ih, List.length_cons]; show 1 + l.length = _; lia  
theorem joined {x : Str} {cs : List Nat} (e : ls x = (cs.map sg).flatMap ls) : x = S cs := by
  apply str_ext
  rw [e, flat_sg, ls_S]
theorem row_at (i : Int) (h0 : 0 ≤ i) (h8 : i < 8) : Txt.item (Str.ofString "\t\n \"#M\\z") i = sg (rowL.getD i.toNat 0) := by
  have : i = 0 ∨ i = 1 ∨ i = 2 ∨ i = 3 ∨ i = 4 ∨ i = 5 ∨ i = 6 ∨ i = 7 := by lia  
  rcases this with h | h | h | h | h | h | h | h <;> subst h <;> decide +kernel
theorem row_ne : ∀ i j : Fin 8, i ≠ j → rowL.getD i.val 0 ≠ rowL.getD j.val 0 := by decide
theorem row_mem : ∀ i : Fin 8, rowL.getD i.val 0 ∈ rowL := by decide
theorem pair_said (x y : Int) : ∃ p1 p2, p1 ∈ rowL ∧ p2 ∈ rowL ∧ p1 ≠ p2 ∧ Txt.item (Str.ofString "\t\n \"#M\\z") (x.fmod 8) = sg p1 ∧ Txt.item (Str.ofString "\t\n \"#M\\z") ((x + 1 + y.fmod 7).fmod 8) = sg p2 := by
  have h0 := Int.fmod_nonneg_of_pos x (show (0 : Int) < 8 by decide)
  have h1 := Int.fmod_lt_of_pos x (show (0 : Int) < 8 by decide)
  have h2 := Int.fmod_nonneg_of_pos (x + 1 + y.fmod 7) (show (0 : Int) < 8 by decide)
  have h3 := Int.fmod_lt_of_pos (x + 1 + y.fmod 7) (show (0 : Int) < 8 by decide)
  have hne : x.fmod 8 ≠ (x + 1 + y.fmod 7).fmod 8 := by
    have h4 := Int.fmod_nonneg_of_pos y (show (0 : Int) < 7 by decide)
    have h5 := Int.fmod_lt_of_pos y (show (0 : Int) < 7 by decide)
    rw [Int.fmod_eq_emod_of_nonneg _ (show (0 : Int) ≤ 8 by decide), Int.fmod_eq_emod_of_nonneg _ (show (0 : Int) ≤ 8 by decide)]
    lia  
  refine ⟨_, _, ?_, ?_, ?_, row_at _ h0 h1, row_at _ h2 h3⟩
  · exact row_mem ⟨(x.fmod 8).toNat, by lia  ⟩
  · exact row_mem ⟨((x + 1 + y.fmod 7).fmod 8).toNat, by lia  ⟩
  · exact row_ne ⟨(x.fmod 8).toNat, by lia  ⟩ ⟨((x + 1 + y.fmod 7).fmod 8).toNat, by lia  ⟩ fun e => hne (by have := congrArg Fin.val e; simp at this; lia  )
theorem pair_frame {G0 h : Heap} {LL : Addr} {A B : Str} {p1 p2 : Nat} {wv : Int} {r : Str} {tp tw tr : Tok} {m : Str → Option Value}
    (F : Fr G0 LL h (fun y => if y = Str.ofString "pair" then some (.str (A ++ B) tp) else if y = Str.ofString "which" then some (.int wv tw) else if y = Str.ofString "root" then some (.str r tr) else m y)) (hA : A = sg p1) (hB : B = sg p2) :
    ∃ tp' tw' tr', Fr G0 LL h (fun y => if y = Str.ofString "pair" then some (.str (S [p1, p2]) tp') else if y = Str.ofString "which" then some (.int wv tw') else if y = Str.ofString "root" then some (.str r tr') else m y) := by
  refine ⟨tp, tw, tr, ?_⟩
  rw [hA, hB] at F
  exact F
theorem which_frame {G0 h : Heap} {LL : Addr} {P r : Str} {wv : Int} {tp tw tr : Tok} {m : Str → Option Value} (h0 : 0 ≤ wv ∧ wv ≤ 100000000)
    (F : Fr G0 LL h (fun y => if y = Str.ofString "pair" then some (.str P tp) else if y = Str.ofString "which" then some (.int wv tw) else if y = Str.ofString "root" then some (.str r tr) else m y)) :
    ∃ wh tw', (0 ≤ wh ∧ wh ≤ 100000000) ∧ Fr G0 LL h (fun y => if y = Str.ofString "pair" then some (.str P tp) else if y = Str.ofString "which" then some (.int wh tw') else if y = Str.ofString "root" then some (.str r tr) else m y) := ⟨wv, tw, h0, F⟩
theorem which_bounds (a b : Int) {c : Int} (hc : 0 ≤ c ∧ c ≤ 100000000) : 0 ≤ ([a, b, c].getD (Int.toNat 2) 0).fdiv 8 ∧ ([a, b, c].getD (Int.toNat 2) 0).fdiv 8 ≤ 100000000 := by
  show 0 ≤ c.fdiv 8 ∧ c.fdiv 8 ≤ 100000000
  rw [Int.fdiv_eq_ediv_of_nonneg _ (by decide)]
  lia  
theorem written2_ct (w : World) (mean : ExcName → Option Value) (mg mb : Str → Option Value) (news : List (Addr × Obj)) (l : List Nat) (t t2 : Tok) (way : Int) (hw : l.length ≤ 6) :
   Ct 1 w mean mg mb 89 news [.str (S l) t, .int way t2] (isS (S (writtenF l way)) news) := by
  have := written_ct w mean mg mb news (S l) t t2 way (by rw [S_len]; lia  )
  rwa [ls_S] at this
theorem flat_le (f : Nat → List Nat) (hf : ∀ c, (f c).length ≤ 2) (l : List Nat) : (l.flatMap f).length ≤ 2 * l.length := by
  induction l with
  | nil => exact Nat.zero_le _
  | cons a l ih => rw [List.flatMap_cons, List.length_append, List.length_cons]; have := hf a; lia  
theorem written_len (l : List Nat) (way : Int) (h : l.length ≤ 6) : (S (writtenF l way)).length ≤ 20 := by
  rw [S_len]
  unfold writtenF
  split
  · have := flat_le escQ escQ_le l
    simp only [List.length_append, List.length_cons, List.length_nil]; lia  
  · have := flat_le escB escB_le l
    simp only [List.length_append, List.length_cons, List.length_nil]; lia  
theorem pair_item0 (p1 p2 : Nat) : Txt.item (S [p1, p2]) 0 = S [p1] := by
  rw [item0 (by rw [S_len]; rfl), ls_S]; rfl
theorem pair_item1 (p1 p2 : Nat) : Txt.item (S [p1, p2]) 1 = S [p2] := by
  rw [item1 (by rw [S_len]; rfl), ls_S]; rfl
theorem written3_ct (w : World) (mean : ExcName → Option Value) (mg mb : Str → Option Value) (news : List (Addr × Obj)) (l : List Nat) (t t2 : Tok) (way : Int) (hw : l.length ≤ 6) :
   Ct 1 w mean mg mb 89 news [.str (S l) t, .int way t2] (fun v news' g g' => ∃ wy, isS (S (writtenF l wy)) news v news' g g') :=
  fun _ _ _ _ _ _ _ _ _ _ _ _ _ _ _ _ _ B F X N T hk hd hu ret => written2_ct w mean mg mb news l t t2 way hw _ _ _ _ _ _ _ _ _ _ _ _ _ _ _ _ _ B F X N T hk hd hu fun v news' h' tk' g' hp => ret v news' h' tk' g' ⟨way, hp⟩
theorem text_frame {G0 h : Heap} {LL : Addr} {A B C : List Nat} {t : Tok} {m : Str → Option Value}
    (F : Fr G0 LL h (fun y => if y = Str.ofString "text" then some (.str (S A ++ S B ++ S C) t) else m y)) :
    ∃ t', Fr G0 LL h (fun y => if y = Str.ofString "text" then some (.str (S (A ++ B ++ C)) t') else m y) := by
  refine ⟨t, ?_⟩
  rw [S_append, S_append] at F
  exact F
theorem allLt_gt {LL lS : Nat} {oS o5 o4 o3 o2 o1 : Obj} {p : Addr × Obj} (h1 : 79 < LL) (h2 : 79 < lS) (hp : p ∈ [((lS : Addr), oS), (LL + 1 + 1 + 1 + 1 + 1, o5), (LL + 1 + 1 + 1 + 1, o4), (LL + 1 + 1 + 1, o3), (LL + 1 + 1, o2), (LL + 1, o1)]) : LT.lt (α := Nat) 79 p.1 := by
  simp only [List.mem_cons, List.not_mem_nil, or_false] at hp
  rcases hp with rfl | rfl | rfl | rfl | rfl | rfl
  · exact h2
  · show 79 < LL + 1 + 1 + 1 + 1 + 1; lia  
  · show 79 < LL + 1 + 1 + 1 + 1; lia  
  · show 79 < LL + 1 + 1 + 1; lia  
  · show 79 < LL + 1 + 1; lia  
  · show 79 < LL + 1; lia  
theorem tab_first {h₀ h : Heap} {L : Addr} {a1 a2 a3 a4 a5 a6 z : Addr × Obj} (N : News h₀ L h [a1, a2, a3, a4, a5, a6, z]) : News h₀ L h (z :: [a1, a2, a3, a4, a5, a6]) := news_sub N fun p hp => by
  simp only [List.mem_cons, List.not_mem_nil, or_false] at hp ⊢
  grind
theorem S_three (A B C : List Nat) : S A ++ S B ++ S C = S (A ++ B ++ C) := by rw [S_append, S_append]
end
section
open PySem PySem.W PyProof.Rows
open PySem.Builtin PySem.Builtin.Str
set_option maxRecDepth 100000
set_option maxHeartbeats 8000000

theorem ne_own {base own news₁ : List (Addr × Obj)} {z : Addr} {o : Obj} {bad : List Addr} (h : ∀ p ∈ base, p.1 ≠ z) (hz : (z, o) ∈ news₁) (hoff : ∀ q ∈ news₁, q.1 ∉ bad) (hown : ∀ q ∈ own, q.1 ∈ bad) : ∀ p ∈ base ++ own, p.1 ≠ z := fun p hp e => by
  rcases List.mem_append.mp hp with hp | hp
  · exact h p hp e
  · exact hoff _ hz (e ▸ hown p hp)
theorem LXS.fst {w : World} {k1 k2 k3 k4 tw : Tok} {x dx pb st ds rd cc cell lf : Addr} {ods ost ord occ ocell : Obj} {K : Int} {R led : List (Addr × Obj)} {xs : List Str} (h : LXS w k1 k2 k3 k4 tw x dx pb st ds rd cc cell lf ods ost ord occ ocell K R xs led) :
    led.map Prod.fst = [x, dx, lf, rd, cc, cell, ds, st] ++ R.map Prod.fst := by
  obtain ⟨h1, tl, ln, n, kl, ys, hy, hK, rfl⟩ := h
  rfl
theorem off_same {l l' : List (Addr × Obj)} {bad : List Addr} (h : ∀ q ∈ l, q.1 ∉ bad) (e : l'.map Prod.fst = l.map Prod.fst) : ∀ q ∈ l', q.1 ∉ bad := fun q hq => by
  have : q.1 ∈ l.map Prod.fst := e ▸ List.mem_map_of_mem hq
  obtain ⟨p, hp, e'⟩ := List.mem_map.mp this
  exact e' ▸ h p hp
theorem pb_move {h₀ h : Heap} {L : Addr} {p a1 a2 a3 a4 a5 a6 a7 a8 : Addr × Obj} {r : List (Addr × Obj)} (N : News h₀ L h (p :: a1 :: a2 :: a3 :: a4 :: a5 :: a6 :: a7 :: a8 :: r)) : News h₀ L h (a1 :: a2 :: a3 :: a4 :: a5 :: a6 :: a7 :: a8 :: p :: r) := news_sub N fun q hq => by
  simp only [List.mem_cons] at hq ⊢
  grind
theorem strs_more {ys : List Value} {f : Nat → List Nat} {i : Nat} (h : StrsAre ys ((List.range i).map fun j => S (f j))) (t : Tok) : StrsAre (ys ++ [.str (S (f i)) t]) ((List.range (i + 1)).map fun j => S (f j)) := by
  rw [List.range_succ, List.map_append]
  exact strsAre_snoc h _ _
/-- the addresses of the lexer's parts and of what lay there lie apart -/
theorem apart_lf {LL lS x pb dx lf rd cc cell ds st : Nat} {ox op ord occ oce ods ost ot oS o5 o4 o3 o2 o1 : Obj} (h0 : 79 < LL)
    (hl : (lS < cell ∧ LL + 1 + 1 + 1 + 1 + 1 < cell ∧ LL + 1 + 1 + 1 + 1 < cell ∧ LL + 1 + 1 + 1 < cell ∧ LL + 1 + 1 < cell ∧ LL + 1 < cell ∧ True) ∧ cell < lf ∧ lf < st ∧ st < cc ∧ cc < rd ∧ rd < ds ∧ ds < dx ∧ dx < x ∧ x < pb) :
    ∀ p ∈ [((x : Addr), ox), (rd, ord), (cc, occ), (cell, oce), (ds, ods), (st, ost), (pb, op), (79, ot), (lS, oS), (LL + 1 + 1 + 1 + 1 + 1, o5), (LL + 1 + 1 + 1 + 1, o4), (LL + 1 + 1 + 1, o3), (LL + 1 + 1, o2), (LL + 1, o1)], p.1 ≠ lf := by
  obtain ⟨⟨a1, a2, a3, a4, a5, a6, -⟩, b1, b2, b3, b4, b5, b6, b7, b8⟩ := hl
  have c3 := Nat.lt_trans b2 b3
  have c4 := Nat.lt_trans c3 b4
  have c5 := Nat.lt_trans c4 b5
  have c7 := Nat.lt_trans (Nat.lt_trans c5 b6) b7
  have d0 : 79 < cell := Nat.lt_trans h0 (Nat.lt_of_succ_lt a6)
  exact List.forall_mem_cons.mpr ⟨Nat.ne_of_gt c7, List.forall_mem_cons.mpr ⟨Nat.ne_of_gt c4, List.forall_mem_cons.mpr ⟨Nat.ne_of_gt c3, List.forall_mem_cons.mpr ⟨Nat.ne_of_lt b1, List.forall_mem_cons.mpr ⟨Nat.ne_of_gt c5, List.forall_mem_cons.mpr ⟨Nat.ne_of_gt b2, List.forall_mem_cons.mpr ⟨Nat.ne_of_gt (Nat.lt_trans c7 b8), List.forall_mem_cons.mpr ⟨Nat.ne_of_lt (Nat.lt_trans d0 b1), List.forall_mem_cons.mpr ⟨Nat.ne_of_lt (Nat.lt_trans a1 b1), List.forall_mem_cons.mpr ⟨Nat.ne_of_lt (Nat.lt_trans a2 b1), List.forall_mem_cons.mpr ⟨Nat.ne_of_lt (Nat.lt_trans a3 b1), List.forall_mem_cons.mpr ⟨Nat.ne_of_lt (Nat.lt_trans a4 b1), List.forall_mem_cons.mpr ⟨Nat.ne_of_lt (Nat.lt_trans a5 b1), List.forall_mem_cons.mpr ⟨Nat.ne_of_lt (Nat.lt_trans a6 b1), List.forall_mem_nil _⟩⟩⟩⟩⟩⟩⟩⟩⟩⟩⟩⟩⟩⟩
theorem apart_dx {LL lS x pb dx lf rd cc cell ds st : Nat} {ox op ord occ oce ods ost ot oS o5 o4 o3 o2 o1 : Obj} (h0 : 79 < LL)
    (hl : (lS < cell ∧ LL + 1 + 1 + 1 + 1 + 1 < cell ∧ LL + 1 + 1 + 1 + 1 < cell ∧ LL + 1 + 1 + 1 < cell ∧ LL + 1 + 1 < cell ∧ LL + 1 < cell ∧ True) ∧ cell < lf ∧ lf < st ∧ st < cc ∧ cc < rd ∧ rd < ds ∧ ds < dx ∧ dx < x ∧ x < pb) :
    ∀ p ∈ [((x : Addr), ox), (rd, ord), (cc, occ), (cell, oce), (ds, ods), (st, ost), (pb, op), (79, ot), (lS, oS), (LL + 1 + 1 + 1 + 1 + 1, o5), (LL + 1 + 1 + 1 + 1, o4), (LL + 1 + 1 + 1, o3), (LL + 1 + 1, o2), (LL + 1, o1)], p.1 ≠ dx := by
  obtain ⟨⟨a1, a2, a3, a4, a5, a6, -⟩, b1, b2, b3, b4, b5, b6, b7, b8⟩ := hl
  have e5 := Nat.lt_trans b5 b6
  have e4 := Nat.lt_trans b4 e5
  have e3 := Nat.lt_trans b3 e4
  have e1 := Nat.lt_trans b1 (Nat.lt_trans b2 e3)
  have d0 : 79 < cell := Nat.lt_trans h0 (Nat.lt_of_succ_lt a6)
  exact List.forall_mem_cons.mpr ⟨Nat.ne_of_gt b7, List.forall_mem_cons.mpr ⟨Nat.ne_of_lt e5, List.forall_mem_cons.mpr ⟨Nat.ne_of_lt e4, List.forall_mem_cons.mpr ⟨Nat.ne_of_lt e1, List.forall_mem_cons.mpr ⟨Nat.ne_of_lt b6, List.forall_mem_cons.mpr ⟨Nat.ne_of_lt e3, List.forall_mem_cons.mpr ⟨Nat.ne_of_gt (Nat.lt_trans b7 b8), List.forall_mem_cons.mpr ⟨Nat.ne_of_lt (Nat.lt_trans d0 e1), List.forall_mem_cons.mpr ⟨Nat.ne_of_lt (Nat.lt_trans a1 e1), List.forall_mem_cons.mpr ⟨Nat.ne_of_lt (Nat.lt_trans a2 e1), List.forall_mem_cons.mpr ⟨Nat.ne_of_lt (Nat.lt_trans a3 e1), List.forall_mem_cons.mpr ⟨Nat.ne_of_lt (Nat.lt_trans a4 e1), List.forall_mem_cons.mpr ⟨Nat.ne_of_lt (Nat.lt_trans a5 e1), List.forall_mem_cons.mpr ⟨Nat.ne_of_lt (Nat.lt_trans a6 e1), List.forall_mem_nil _⟩⟩⟩⟩⟩⟩⟩⟩⟩⟩⟩⟩⟩⟩
theorem nls_one {l : List Nat} (h : l.length ≤ 1000) : StrsOne (l.map sg) := ⟨by rw [List.length_map]; exact h, fun x hx => by
  obtain ⟨d, _, rfl⟩ := List.mem_map.mp hx
  rfl⟩
theorem four_eq (cs : List Nat) (p1 p2 : Nat) : ((List.range 4).map fun j => S (tokAt cs [p1] [p2] j)) = [S cs, Txt.item (S [p1, p2]) 0, Txt.item (S [p1, p2]) 1, Str.ofString ""] := by
  rw [pair_item0, pair_item1, S_nil]; rfl
theorem row_lt : ∀ c ∈ rowL, c < 0x110000 := by decide
theorem strOk_S {l : List Nat} (h : ∀ c ∈ l, c ∈ rowL) : PyData.strOk (S l) = true := by
  unfold PyData.strOk S
  show (Array.all ⟨l⟩ _) = true
  rw [List.all_toArray]
  exact List.all_eq_true.mpr fun c hc => decide_eq_true (row_lt c (h c hc))
theorem four_ok {cs : List Nat} {p1 p2 : Nat} (h : ∀ c ∈ cs, c ∈ rowL) (h1 : p1 ∈ rowL) (h2 : p2 ∈ rowL) : ∀ x ∈ [S cs, S [p1], S [p2], S []], PyData.strOk x = true := fun x hx => by
  simp only [List.mem_cons, List.not_mem_nil, or_false] at hx
  rcases hx with rfl | rfl | rfl | rfl
  · exact strOk_S h
  · exact strOk_S (by simpa using h1)
  · exact strOk_S (by simpa using h2)
  · exact strOk_S (fun _ hc => nomatch hc)
theorem LXS.cut2 {w : World} {k1 k2 k3 k4 tw : Tok} {x dx pb st ds rd cc cell lf : Addr} {ods ost ord occ ocell : Obj} {K : Int} {a : Addr × Obj} {R own led : List (Addr × Obj)} {xs : List Str} (h : LXS w k1 k2 k3 k4 tw x dx pb st ds rd cc cell lf ods ost ord occ ocell K (a :: (R.append own)) xs led) :
    ∃ led', LXS w k1 k2 k3 k4 tw x dx pb st ds rd cc cell lf ods ost ord occ ocell K (a :: R) xs led' ∧ led = led' ++ own := LXS.cut (R := a :: R) h
end
section
open PySem PySem.W PyProof.Rows
open PySem.Builtin PySem.Builtin.Str
set_option maxRecDepth 100000
set_option maxHeartbeats 8000000

theorem nl_S : Str.ofString "\n" = ⟨#[10]⟩ := by decide +kernel
theorem nl_char : Str.ofString (String.singleton (Char.ofNat 10)) = sg 10 := by decide +kernel
theorem fold_mem (c : Array Nat) : ∀ (k : Nat) (acc : Array Nat) (d : Nat), d ∈ ((List.replicate k c).foldl (· ++ ·) acc) → d ∈ acc ∨ d ∈ c
  | 0, acc, d, h => .inl h
  | k + 1, acc, d, h => by
    rw [List.replicate_succ, List.foldl_cons] at h
    rcases fold_mem c k _ d h with h | h
    · rcases Array.mem_append.mp h with h | h
      · exact .inl h
      · exact .inr h
    · exact .inr h
theorem mul_mem {x : Str} {n : Int} {d : Nat} (h : d ∈ ls (Txt.mul x n)) : d ∈ ls x := by
  unfold Txt.mul at h
  split at h
  · simp [ls, Str.empty] at h
  · split at h
    · exact h
    · have h' : d ∈ ((List.replicate n.toNat x.cps).foldl (· ++ ·) #[]) := by simpa [ls] using h
      rcases fold_mem _ _ _ _ h' with q | q
      · simp at q
      · simpa [ls] using q
theorem mul_len {cs : List Nat} {size : Int} (h1 : 1 ≤ cs.length) (h6 : cs.length ≤ 6) (hs : 4 ≤ size ∧ size ≤ 6) : size ≤ ((Txt.mul (S cs) size).length : Int) ∧ (Txt.mul (S cs) size).length ≤ 36 := by
  have e := len_mul (S cs) size
  rw [S_len cs, if_neg (by simp; lia  )] at e
  have hl : cs.length = 1 ∨ cs.length = 2 ∨ cs.length = 3 ∨ cs.length = 4 ∨ cs.length = 5 ∨ cs.length = 6 := by lia  
  rcases hl with h | h | h | h | h | h <;> rw [h] at e <;> lia  
theorem word_said {cs : List Nat} {size : Int} (h1 : 1 ≤ cs.length) (h6 : cs.length ≤ 6) (hs : 4 ≤ size ∧ size ≤ 6) (hr : ∀ d ∈ cs, d ∈ rowL) :
    ∃ wd : List Nat, Txt.slice (Txt.mul (S cs) size) none (some size) = S wd ∧ wd.length = size.toNat ∧ ∀ d ∈ wd, d ∈ rowL := by
  obtain ⟨hl, _⟩ := mul_len h1 h6 hs
  refine ⟨_, slice_upto (by lia  ), ?_, fun d hd => ?_⟩
  · rw [List.length_take, ls_length]; lia  
  · have := mul_mem (List.mem_of_mem_take hd)
    rw [ls_S] at this
    exact hr d this
theorem sg_inj {a b : Nat} : sg a = sg b ↔ a = b := ⟨fun e => by
  have := congrArg ls e
  simpa [ls] using this, fun e => e ▸ rfl⟩
theorem nls_cnt (l : List Nat) : nls (l.map sg) = cnt 10 l := by
  induction l with
  | nil => rw [cnt_nil]; rfl
  | cons d l ih =>
    rw [List.map_cons, nls, cnt_cons, ih, nl_char]
    by_cases h : d = 10
    · rw [if_pos (sg_inj.mpr h), if_pos h]
    · rw [if_neg (fun e => h (sg_inj.mp e)), if_neg h]
theorem count_nls (l : List Nat) : Txt.count (S l) (Str.ofString "\n") = nls (l.map sg) := by
  rw [nl_S, count_cnt, nls_cnt]
theorem drop1 {h₀ h : Heap} {L : Addr} {a : Addr × Obj} {r : List (Addr × Obj)} (N : News h₀ L h (a :: r)) : News h₀ L h r := fun p hp => N p (.tail _ hp)
theorem drop2 {h₀ h : Heap} {L : Addr} {a b : Addr × Obj} {r : List (Addr × Obj)} (N : News h₀ L h (a :: b :: r)) : News h₀ L h r := fun p hp => N p (.tail _ (.tail _ hp))
theorem due_no {wd : List Nat} {i : Nat} (h : dueG wd (i + 1) = false) : ((List.range (i + 1)).map (· + 1)).filter (dueG wd) = ((List.range i).map (· + 1)).filter (dueG wd) := by
  rw [List.range_succ, List.map_append, List.filter_append]
  simp [h]
theorem due_yes {wd : List Nat} {i : Nat} (h : dueG wd (i + 1) = true) : ((List.range (i + 1)).map (· + 1)).filter (dueG wd) = ((List.range i).map (· + 1)).filter (dueG wd) ++ [i + 1] := by
  rw [List.range_succ, List.map_append, List.filter_append]
  simp [h]
theorem due_snoc {ys : List Value} {l : List Nat} {i : Nat} (h : IntsAre ys (l.map Int.ofNat)) (t : Tok) : IntsAre (ys ++ [.int (1 + (i : Int)) t]) ((l ++ [i + 1]).map Int.ofNat) := by
  rw [List.map_append]
  have e : (1 + (i : Int)) = Int.ofNat (i + 1) := by show _ = ((i + 1 : Nat) : Int); lia  
  rw [e]
  exact ints_snoc h _ _
theorem due_slices {wd : List Nat} {size : Int} {i : Nat} (hl : wd.length = size.toNat) (h4 : 4 ≤ size) (hi : i < (size - 1).toNat) : (Txt.slice (S wd) (some (1 + (i : Int))) none == Txt.slice (S wd) none (some (size - (1 + (i : Int))))) = dueG wd (i + 1) := by
  rw [slice_from (by lia  ), slice_upto (by lia  ), ls_S]
  unfold dueG
  have e1 : (1 + (i : Int)).toNat = i + 1 := by lia  
  have e2 : (size - (1 + (i : Int))).toNat = wd.length - (i + 1) := by lia  
  rw [e1, e2, Bool.eq_iff_iff, beq_iff_eq, beq_iff_eq]
  exact ⟨fun e => by have := congrArg ls e; rwa [ls_S, ls_S] at this, fun e => by rw [e]⟩
section
variable {prog : Program} {w : World} {A : Around} {s : Shared} {E : Value → Shared → Prop} {h₀ h2 : Heap} {L : Addr} {m : Str → Option Value} {news : List (Addr × Obj)} {x : Str} {t : Tok} {value slice : Expr} {Q : Value → Shared → Prop}
noncomputable def EltK (h₀ h2 : Heap) (L : Addr) (m : Str → Option Value) (news : List (Addr × Obj)) (C : Addr) (mC : Str → Option Value) (h : Heap) : Prop := Fr h₀ L h m ∧ News h₀ L h news ∧ InElt h2 h ∧ h.Ns C mC
theorem eltK_kept {B : Addr} {mB : Str → Option Value} : KeptH (EltK h₀ h2 L m news B mB) := fun _ _ ⟨F, N, C, hn⟩ => ⟨F.push _, fun p hp => ⟨Heap.get?_push_of_some _ (N p hp).1, (N p hp).2⟩, fun b o e => Heap.get?_push_of_some _ (C b o e), hn.at' fun o e => Heap.get?_push_of_some _ e⟩
theorem slice_elt_sn {i : Int} {ui : Tok} (F : Fr h₀ L s.heap m) (N : News h₀ L s.heap news) {B : Addr} {mB : Str → Option Value} (C : InElt h2 s.heap) (hn : s.heap.Ns B mB) (hsz : x.length ≤ sizeLine)
    (h : ∀ h' t' k, Fr h₀ L h' m → News h₀ L h' news → InElt h2 h' → h'.Ns B mB → Q (.str (Txt.slice x (some i) none) t') { s with heap := h', toks := k })
    (hs : subscripted slice false (.str x t) (.ref s.heap.objs.size) = operate [.ref s.heap.objs.size, .str x t] (getItem (.str x t) (.ref s.heap.objs.size)) := by with_unfolding_all rfl)
    (ht : ∀ r, letTemporaryGo value (.str x t) r = pure () := by intro _; with_unfolding_all rfl) :
    wpAny (model prog w) A (subscriptTail value slice (.str x t) (.ref s.heap.objs.size)) Q E { s with heap := s.heap.push { cls := .type "slice", data := .fields #[.int i ui, .none, .none] } } :=
  tail_of_ItemOn (SBH.sliceItem_sn eltK_kept ⟨F, N, C, hn⟩ (fun h' t' k a => h h' t' k a.1 a.2.1 a.2.2.1 a.2.2.2) hsz) hs ht
theorem slice_elt_ns {j : Int} {uj : Tok} (F : Fr h₀ L s.heap m) (N : News h₀ L s.heap news) {B : Addr} {mB : Str → Option Value} (C : InElt h2 s.heap) (hn : s.heap.Ns B mB) (hsz : x.length ≤ sizeLine)
    (h : ∀ h' t' k, Fr h₀ L h' m → News h₀ L h' news → InElt h2 h' → h'.Ns B mB → Q (.str (Txt.slice x none (some j)) t') { s with heap := h', toks := k })
    (hs : subscripted slice false (.str x t) (.ref s.heap.objs.size) = operate [.ref s.heap.objs.size, .str x t] (getItem (.str x t) (.ref s.heap.objs.size)) := by with_unfolding_all rfl)
    (ht : ∀ r, letTemporaryGo value (.str x t) r = pure () := by intro _; with_unfolding_all rfl) :
    wpAny (model prog w) A (subscriptTail value slice (.str x t) (.ref s.heap.objs.size)) Q E { s with heap := s.heap.push { cls := .type "slice", data := .fields #[.none, .int j uj, .none] } } :=
  tail_of_ItemOn (SBH.sliceItem_ns eltK_kept ⟨F, N, C, hn⟩ (fun h' t' k a => h h' t' k a.1 a.2.1 a.2.2.1 a.2.2.2) hsz) hs ht
end
end
section
open PySem PySem.W PyProof.Rows
open PySem.Builtin PySem.Builtin.Str
set_option maxRecDepth 100000
set_option maxHeartbeats 8000000

theorem row_nodot : ∀ c ∈ rowL, c ≠ 46 := by decide
theorem nodot_row {l : List Nat} (h : ∀ d ∈ l, d ∈ rowL) : nodot l := fun q => row_nodot 46 (h 46 q) rfl
theorem has_bridge (l : List Nat) (ns : List Nat) : hasF (S l) (ns.map Int.ofNat) = hasG l ns := by
  unfold hasF hasG
  rw [S_len]
  congr 1
  funext i
  have e1 : Txt.startswith (S l) (Txt.slice (S l) (some (1 + (i : Int))) none) = (l.drop (i + 1)).isPrefixOf l := by
    rw [starts_ls, slice_from (by lia  ), ls_S, ls_S]
    congr 2
    lia  
  have e2 : ((ns.map Int.ofNat).any fun x => x == 1 + (i : Int)) = ns.contains (i + 1) := by
    rw [List.any_map, Bool.eq_iff_iff, List.any_eq_true, List.contains_iff_mem]
    constructor
    · rintro ⟨x, hx, e⟩
      have e' : (x : Int) = 1 + (i : Int) := by simpa using e
      have : x = i + 1 := by lia  
      exact this ▸ hx
    · intro h
      refine ⟨i + 1, h, ?_⟩
      have : ((i + 1 : Nat) : Int) = 1 + (i : Int) := by lia  
      simpa using this
  rw [e1, e2]
  cases (l.drop (i + 1)).isPrefixOf l <;> cases ns.contains (i + 1) <;> rfl
theorem choices_mem (p : List Nat) : ∀ (n : Nat) (w : List Nat), w ∈ choicesF p n → ∀ d ∈ w, d ∈ p
  | 0, w, h, d, hd => by
    simp only [choicesF, List.mem_singleton] at h
    subst h
    exact List.mem_of_mem_take hd
  | n + 1, w, h, d, hd => by
    simp only [choicesF, List.mem_flatMap, List.mem_map] at h
    obtain ⟨v, hv, e, he, rfl⟩ := h
    rcases List.mem_append.mp hd with q | q
    · exact choices_mem p n v hv d q
    · rw [List.mem_singleton.mp q]; exact he
theorem found_true {p1 p2 : Nat} (h12 : p1 ≠ p2) {wd : List Nat} {size : Int} (hl : wd.length = size.toNat) (hs : 4 ≤ size ∧ size ≤ 6) :
    foundF ((choicesF [p1, p2] (size - 1).toNat).map S) ((stepsG wd).map Int.ofNat) = true := by
  have h : wd.length = 4 ∨ wd.length = 5 ∨ wd.length = 6 := by lia  
  have := found_pair h12 wd h
  unfold foundF
  rw [List.any_map, choices_eq]
  have e : (size - 1).toNat = wd.length - 1 := by lia  
  rw [e]
  rw [← this]
  congr 1
  funext x
  exact has_bridge x _
theorem told_true {wd : List Nat} {size : Int} (hl : wd.length = size.toNat) (hs : 4 ≤ size ∧ size ≤ 6) : toldG wd = true :=
  (law1_plain wd (by lia  )).1
theorem steps_said {wd : List Nat} {size : Int} {ys : List Value} (hl : wd.length = size.toNat) (hs : 4 ≤ size) (h : IntsAre ys ((((List.range (size - 1).toNat).map (· + 1)).filter (dueG wd)).map Int.ofNat)) : IntsAre ys ((stepsG (ls (S wd))).map Int.ofNat) := by
  rw [ls_S]
  unfold stepsG
  have e : wd.length - 1 = (size - 1).toNat := by lia  
  rw [e]
  exact h
theorem steps_len (wd : List Nat) (h : wd.length ≤ 6) : ((stepsG wd).map Int.ofNat).length ≤ 100 := by
  rw [List.length_map]
  unfold stepsG
  have := List.length_filter_le (dueG wd) ((List.range (wd.length - 1)).map (· + 1))
  rw [List.length_map, List.length_range] at this
  lia  
theorem choice_ok {p1 p2 : Nat} (h1 : p1 ∈ rowL) (h2 : p2 ∈ rowL) {n : Nat} (hn : 3 ≤ n ∧ n ≤ 5) : ∀ x ∈ (choicesF [p1, p2] n).map S, nodot (ls x) ∧ 2 ≤ x.length ∧ x.length ≤ 100 := fun x hx => by
  obtain ⟨w, hw, rfl⟩ := List.mem_map.mp hx
  have hl := (choices_len [p1, p2] rfl n).2 w hw
  refine ⟨?_, by rw [S_len]; lia  , by rw [S_len]; lia  ⟩
  rw [ls_S]
  refine nodot_row fun d hd => ?_
  have := choices_mem _ n w hw d hd
  simp only [List.mem_cons, List.not_mem_nil, or_false] at this
  rcases this with rfl | rfl
  · exact h1
  · exact h2
theorem choice_strOk {p1 p2 : Nat} (h1 : p1 ∈ rowL) (h2 : p2 ∈ rowL) {n : Nat} : ∀ x ∈ (choicesF [p1, p2] n).map S, PyData.strOk x = true := fun x hx => by
  obtain ⟨w, hw, rfl⟩ := List.mem_map.mp hx
  refine strOk_S fun d hd => ?_
  have := choices_mem _ n w hw d hd
  simp only [List.mem_cons, List.not_mem_nil, or_false] at this
  rcases this with rfl | rfl
  · exact h1
  · exact h2
theorem pb_ne {pb D : Nat} {LL lS x dx lf rd cc cell ds st : Nat} {olf ord occ oce ods ost ot oS o5 o4 o3 o2 o1 oD : Obj} (h0 : 79 < LL) (hD : pb < D)
    (hl : (lS < cell ∧ LL + 1 + 1 + 1 + 1 + 1 < cell ∧ LL + 1 + 1 + 1 + 1 < cell ∧ LL + 1 + 1 + 1 < cell ∧ LL + 1 + 1 < cell ∧ LL + 1 < cell ∧ True) ∧ cell < lf ∧ lf < st ∧ st < cc ∧ cc < rd ∧ rd < ds ∧ ds < dx ∧ dx < x ∧ x < pb) :
    ∀ p ∈ [((lf : Addr), olf), (rd, ord), (cc, occ), (cell, oce), (ds, ods), (st, ost), (79, ot), (lS, oS), (LL + 1 + 1 + 1 + 1 + 1, o5), (LL + 1 + 1 + 1 + 1, o4), (LL + 1 + 1 + 1, o3), (LL + 1 + 1, o2), (LL + 1, o1), (D, oD)], p.1 ≠ pb := by
  obtain ⟨⟨a1, a2, a3, a4, a5, a6, -⟩, b1, b2, b3, b4, b5, b6, b7, b8⟩ := hl
  have e6 := Nat.lt_trans b6 (Nat.lt_trans b7 b8)
  have e5 := Nat.lt_trans b5 e6
  have e4 := Nat.lt_trans b4 e5
  have e3 := Nat.lt_trans b3 e4
  have e2 := Nat.lt_trans b2 e3
  have e1 := Nat.lt_trans b1 e2
  have d0 : 79 < cell := Nat.lt_trans h0 (Nat.lt_of_succ_lt a6)
  exact List.forall_mem_cons.mpr ⟨Nat.ne_of_lt e2, List.forall_mem_cons.mpr ⟨Nat.ne_of_lt e5, List.forall_mem_cons.mpr ⟨Nat.ne_of_lt e4, List.forall_mem_cons.mpr ⟨Nat.ne_of_lt e1, List.forall_mem_cons.mpr ⟨Nat.ne_of_lt e6, List.forall_mem_cons.mpr ⟨Nat.ne_of_lt e3, List.forall_mem_cons.mpr ⟨Nat.ne_of_lt (Nat.lt_trans d0 e1), List.forall_mem_cons.mpr ⟨Nat.ne_of_lt (Nat.lt_trans a1 e1), List.forall_mem_cons.mpr ⟨Nat.ne_of_lt (Nat.lt_trans a2 e1), List.forall_mem_cons.mpr ⟨Nat.ne_of_lt (Nat.lt_trans a3 e1), List.forall_mem_cons.mpr ⟨Nat.ne_of_lt (Nat.lt_trans a4 e1), List.forall_mem_cons.mpr ⟨Nat.ne_of_lt (Nat.lt_trans a5 e1), List.forall_mem_cons.mpr ⟨Nat.ne_of_lt (Nat.lt_trans a6 e1), List.forall_mem_cons.mpr ⟨Nat.ne_of_gt hD, List.forall_mem_nil _⟩⟩⟩⟩⟩⟩⟩⟩⟩⟩⟩⟩⟩⟩
section
variable {h₀ h : Heap} {L : Addr} {D D2 D3 x dx lf rd cc ce ds st pb r1 r2 r3 r4 r5 r6 r7 : Addr × Obj}
theorem line_order (N : News h₀ L h [D, x, dx, lf, rd, cc, ce, ds, st, pb, r1, r2, r3, r4, r5, r6, r7]) : News h₀ L h (pb :: x :: dx :: [lf, rd, cc, ce, ds, st, r1, r2, r3, r4, r5, r6, r7, D]) := news_sub N fun p hp => by
  simp only [List.mem_cons, List.not_mem_nil, or_false] at hp ⊢
  grind
theorem found_order (N : News h₀ L h [D3, D2, pb, x, dx, lf, rd, cc, ce, ds, st, r1, r2, r3, r4, r5, r6, r7, D]) : News h₀ L h (D :: D2 :: [r1]) := news_sub N fun p hp => by
  simp only [List.mem_cons, List.not_mem_nil, or_false] at hp ⊢
  grind
end
end
section
open PySem PySem.W PyProof.Rows
open PySem.Builtin PySem.Builtin.Str
set_option maxRecDepth 100000
set_option maxHeartbeats 8000000



local macro_rules | `(tactic| walk_at "call ref") => `(tactic| (refine stop_here ?_))
local macro_rules | `(tactic| walk_at "subscriptTail Name Slice str ref") => `(tactic| (k_here; (with_reducible rename InElt _ _ => eC'); (with_reducible rename Fr _ _ _ _ => eF'); (with_reducible rename News _ _ _ _ => eN'); (with_reducible rename Heap.Ns _ _ _ => eS'); k_dflt (first
  | ((with_reducible show wpAny _ _ (subscriptTail _ (Expr.Slice (some _) none none _) (Value.str _ _) (Value.ref _)) _ _ _); (refine slice_elt_sn (s := ⟨_, _, _, _, _⟩) eF' eN' eC' eS' ?esz ?_); (case esz => size_fits); intro h' t' k' F' N' cE' nS'; clear eC' eS')
  | ((with_reducible show wpAny _ _ (subscriptTail _ (Expr.Slice none (some _) none _) (Value.str _ _) (Value.ref _)) _ _ _); (refine slice_elt_ns (s := ⟨_, _, _, _, _⟩) eF' eN' eC' eS' ?esz ?_); (case esz => size_fits); intro h' t' k' F' N' cE' nS'; clear eC' eS'))))
structure Box (P : Prop) : Prop where
  un : P
noncomputable def st0 : (P : Prop) ×' (Box P → PySem.Challenge.rw_re0036_01.Holds) := by
  refine' ⟨_, fun hP => hd ?main⟩
  case main =>
    w_top on
    w_on

    k_fill
    intro w s₀ s₁ mg mb G Y fa o pm cd doc dV kV ho hd0 hcd hD hmg hg args vals as hpre hlay hrd hwl hlo
    have KX := km_in_of Y
    km_tabs Y
    have X := (Ground.X G).1
    have V := (Ground.X G).2
    refine Ground.open G ?_
    intro T B D TE TW
    try (refine guard_noD D (by decide +kernel) ?_; clear D)
    km_lay T hmg ho hd0 cd
    clear hmg
    wrow_args hpre hlay hrd hwl hlo
    all_goals (first | refine callC_kw (enter_call ?_) | refine enter_call ?_)
    w_top on
    refine lw_post hT9 (fun _ => rfl) ?hp ?_
    case hp => first | rfl | wrow_post
    w_call any ho hd0 hcd hD T F
    clear hd0
    kn_ghosts F T
    k_drop
    skip

    rename_i ns hs1 hs2 hs3 hs4 hs5 wa wb sc vs wc hL0 hra hw1 hr0 hI hr1 hlen hco h1 tk1 o5 o4 o3 o2 o1 q5 q4 q3 q2 q1 X0 XA TA KA FA NA l0
    have d5 := cell_said (v' := none) q5 (by with_unfolding_all rfl)
    have d4 := cell_said (v' := none) q4 (by with_unfolding_all rfl)
    have d3 := cell_said (v' := none) q3 (by with_unfolding_all rfl)
    have d2 := cell_said (v' := none) q2 (by with_unfolding_all rfl)
    have d1 := cell_said (v' := none) q1 (by with_unfolding_all rfl)
    have FN := reframe (m' := fun y => if y = Str.ofString "script" then some (.ref sc) else none) FA (by with_unfolding_all rfl)
    have hn63 : ns.length ≤ 63 := by simp at hlen; lia  
    have hgh : GrownAll [(83, 79)] h1 := ⟨⟨_, (NA (79, tabObj #[]) (by simp)).1⟩, trivial⟩
    clear q5 q4 q3 q2 q1 X0 FA hs1 hs2 hs3 hs4 hs5 hra hw1 hr0 hr1 hlen hco hL0 hD hcd ho hT8 X V T B TE TW hgh
    clear G Y hT9
    generalize ghostOf s₁.heap [(83, 79)] = G0 at *
    generalize s₁.heap.objs.size = LL at *
    refine abs_qe ?_
    intro qk ek
    revert w s₀ s₁ mg mb fa o pm cd doc hg ns wa wb sc vs wc hI h1 tk1 o5 o4 o3 o2 o1 d5 d4 d3 d2 d1 hn63 G0 XA TA KA lifted codeHd LL l0 NA FN qk ek
    exact hP.un
noncomputable def st1 : (P : Prop) ×' (Box P → st0.1) := by
  refine' ⟨_, fun hP => ?main⟩
  case main =>
    w_top on
    w_on
    intro w s₀ s₁ mg mb fa o pm cd doc hg ns wa wb sc vs wc hI h1 tk1 o5 o4 o3 o2 o1 d5 d4 d3 d2 d1 hn63 G0 XA TA KA lifted codeHd LL l0 NA FN qk ek
    k_fill

    k_steps
    unfold Stop
    rename_i lS hA1 F1 N1 l1
    refine' CtP.use (sums_ct _ _ _ _ _ sc lS vs ns _ 36 3485 267 _ _ _ hI hn63 (by lia  ) (by lia  ) (by lia  ) ?hl) ?P ?B ?F ?X ?N ?T ?K ?d ?u ?_
    case B => exact KA
    case F => k_asm
    case X => k_asm
    case N => k_asm
    case T => k_asm
    case K => first | exact rfl | assumption
    case d => first | decide +kernel | lia  
    case u => first | decide +kernel | lia  

    case P => exact lifted
    case hl => exact all_ne (allLt_mem (D := lS) ⟨by lia  , by lia  , by lia  , by lia  , by lia  , by lia  , trivial⟩) (Nat.le_refl _)
    rintro v' n' h' tk' g' ⟨rfl, rfl, a, b, c, ta, tb, tc, kS, ha, hb, hc⟩ F' N'
    clear F1 N1 FN NA
    dsimp only

    k_steps
    · exfalso
      rename _ = (0 : Int) => hz
      have := Int.fmod_nonneg_of_pos ([a, b, c].getD (Int.toNat 1) 0) (show (0 : Int) < 3 by decide)
      lia  
    rename IsRange _ _ _ _ _ _ _ _ => hrg
    rename Fr _ _ _ _ => F1
    rename News _ _ _ _ => N1
    rename _ = Data.cell (some (Value.int _ _)) => dz
    rename _ = Data.cell (some (Value.str _ _)) => dw
    rename _ = Data.cell (some (Value.ref _)) => dl
    revert hrg F1 N1
    repeat (rename Fr _ _ _ _ => Fz; clear Fz)
    repeat (rename News _ _ _ _ => Nz; clear Nz)
    intro hrg F1 N1
    obtain ⟨trow, dr⟩ := str_said dw
    clear dw
    obtain ⟨size, many, tz, tm, hs4, hm1, ds, FM, hrng⟩ := size_said a b c dz F1 hrg
    rename _ ≠ (0 : Int) => hz0
    rename vs.length = ns.length => he0
    rename (∀ b o, _ → _) => hk0
    rename IntsAre _ _ => hI
    clear hz0 he0 hk0 dz hI lifted
    clear F1 hrg
    rename_i u1 u2 u3 u4 u5 u6 u7 u8 u9 u10 u11 u12 u13 u14
    revert w s₀ s₁ mg mb fa o pm cd doc hg ns wa wb sc vs wc h1 tk1 o5 o4 o3 o2 o1 d5 d4 d3 d2 d1 hn63 G0 XA TA KA codeHd LL l0 qk ek lS hA1 l1 h' tk' a b c ta tb tc kS ha hb hc u1 u2 dl tk u3 u4 u5 u6 u7 u8 u9 u10 u11 u12 u13 u14 N1 trow dr size many tz tm hs4 hm1 ds FM hrng
    exact hP.un
noncomputable def st2 : (P : Prop) ×' (Box P → st1.1) := by
  refine' ⟨_, fun hP => ?main⟩
  case main =>
    w_top on
    w_on
    intro w s₀ s₁ mg mb fa o pm cd doc hg ns wa wb sc vs wc h1 tk1 o5 o4 o3 o2 o1 d5 d4 d3 d2 d1 hn63 G0 XA TA KA codeHd LL l0 qk ek lS hA1 l1 h' tk' a b c ta tb tc kS ha hb hc _ _ dl tk _ _ _ _ _ _ _ _ _ _ _ _ N1 trow dr size many tz tm hs4 hm1 ds FM hrng
    k_fill

    refine' citer_range (n := many.toNat) (fun _ _ => true) (fun i ys news' g => g = _ ∧ news' = _ ∧ ∃ cs : List Nat, cs.length = i ∧ (∀ d ∈ cs, d ∈ rowL) ∧ StrsAre ys (cs.map sg)) rfl hrng (range_size (by lia  )) (range_small (by lia  ) (by lia  ) (by lia  ) (by lia  )) FM N1 ?hlt ⟨rfl, rfl, [], rfl, (fun _ h => nomatch h), .nil⟩ ?skip ?tests ?elt ?done
    case hlt => lia  
    case skip => intro i t ys news₁ g _ q; exact absurd q (by decide)
    case tests => intro C D I i tv ys news₁ h tk g own mC _ _ _ _ _ _ _ F N _ _ E'; exact wpAny_pure ⟨rfl, _, _, rfl, F, N⟩
    case elt =>
      rintro C D I i tv ys news₁ h tk g own mC hC hD hI hi _ ⟨rfl, rfl, cs, hcl, hcr, hcs⟩ hoff hown F N hn hmC E'
      have cE := InElt.start h
      have hi6 : i < 6 := by lia  
      dsimp only
      k_steps
      have hp4 := pow4_le hi6
      refine floordiv_int (pow4_ne i) ?_ (Or.inl (PyProof.noPylong_small ?_))
      rotate_left
      · lia  
      dsimp only
      k_steps
      obtain ⟨d, hdr, hde⟩ := row_item _ (Int.fmod_nonneg_of_pos ([a, b, c].getD (Int.toNat 2) 0 + (([a, b, c].getD (Int.toNat 0) 0).fdiv (4 ^ (0 + (i : Int)).toNat)).fmod 4) (by decide)) (Int.fmod_lt_of_pos _ (by decide))
      exact ⟨_, _, _, _, rfl, by k_asm, by k_asm, hoff, rfl, rfl, cs ++ [d], by rw [List.length_append, hcl]; rfl, fun e he => (List.mem_append.mp he).elim (hcr e) (fun q => by rw [List.mem_singleton.mp q]; exact hdr), sg_snoc hcs hde⟩
    case done =>
      rintro D h' tk g news' ys kD hD F N hoff ⟨rfl, rfl, cs, hcl, hcr, hcs⟩
      have hcm : cs.length ≤ 6 := by lia  
      have hsum : ((cs.map sg).map (·.length)).sum ≤ 100000 := by rw [sg_sum]; lia  
      clear FM N1 hrng
      dsimp only
      k_steps
      refine' join_led ?jN ?jm ?jh ?jt ?_
      case jN => k_asm
      case jm => k_mem
      case jh => assumption
      case jt => assumption
      intro x _ _ ex hx1
      rw [flat_sg] at ex
      subst ex
      clear hx1 hsum hcs
      have hroot : (S cs).length = many.toNat := by rw [S_len]; exact hcl
      dsimp only
      k_steps

      obtain ⟨p1, p2, hp1, hp2, hp12, he1, he2⟩ := pair_said (([a, b, c].getD (Int.toNat 2) 0).fdiv 8) ((([a, b, c].getD (Int.toNat 2) 0).fdiv 8).fdiv 8)
      rename Fr _ _ _ _ => F1
      rename News _ _ _ _ => N1
      obtain ⟨tp, tw0, tr, F2⟩ := pair_frame F1 he1 he2
      obtain ⟨wh, tw, hwh, F3⟩ := which_frame (which_bounds a b hc) F2
      have N2 : News _ _ _ [(lS, W.listOf [Value.int a ta, Value.int b tb, Value.int c tc].toArray kS), (LL + 1 + 1 + 1 + 1 + 1, o5), (LL + 1 + 1 + 1 + 1, o4), (LL + 1 + 1 + 1, _), (LL + 1 + 1, _), (LL + 1, _), (79, tabObj #[])] := fun p hp => N1 p (.tail _ hp)
      repeat (rename _ ≤ (_ : Str).length ∧ (_ : Str).length ≤ _ => hx1; clear hx1)
      clear he1 he2 F1 F2 N1 F N hD hoff hcm
      rename_i u1 u2 u3 u4 u5 u6 u7 u8 u9 u10 u11 u12 u13 u14 u15 u16 u17 u18 u19 u20 u21 u22 u23 u24 u25 u26
      revert w s₀ s₁ mg mb fa o pm cd doc hg ns wa wb sc vs wc h1 tk1 o5 o4 o3 o2 o1 d5 d4 d3 d2 d1 hn63 G0 XA TA KA codeHd LL l0 qk ek lS hA1 l1 u1 tk' a b c ta tb tc kS ha hb hc u2 u3 dl u4 u5 u6 u7 u8 u9 u10 u11 u12 u13 u14 u15 u16 trow dr size many tz tm hs4 hm1 ds D h' u17 ys kD cs hcl hcr u18 u19 hroot u20 tk u21 u22 u23 u24 u25 u26 p1 p2 hp1 hp2 hp12 tp tw0 tr wh tw hwh F3 N2
      exact hP.un
noncomputable def st3 : (P : Prop) ×' (Box P → st2.1) := by
  refine' ⟨_, fun hP => ?main⟩
  case main =>
    w_top on
    w_on
    intro w s₀ s₁ mg mb fa o pm cd doc hg ns wa wb sc vs wc h1 tk1 o5 o4 o3 o2 o1 d5 d4 d3 d2 d1 hn63 G0 XA TA KA codeHd LL l0 qk ek lS hA1 l1 _ tk' a b c ta tb tc kS ha hb hc _ _ dl _ _ _ _ _ _ _ _ _ _ _ _ _ trow dr size many tz tm hs4 hm1 ds D h' _ ys kD cs hcl hcr _ _ hroot _ tk _ _ _ _ _ _ p1 p2 hp1 hp2 hp12 tp tw0 tr wh tw hwh F3 N2
    k_fill

    have hcl6 : cs.length ≤ 6 := by lia  

    unfold Stop
    refine' Ct.use (written3_ct _ _ _ _ _ cs _ _ _ hcl6) ?B ?F ?X ?N ?T ?K ?d ?u ?_
    case B => exact KA
    case F => k_asm
    case X => k_asm
    case N => k_asm
    case T => k_asm
    case K => first | exact rfl | assumption
    case d => first | decide +kernel | lia  
    case u => first | decide +kernel | lia  

    rintro v' n' h' tk' g' ⟨way1, ⟨tt1, rfl⟩, rfl, rfl⟩ F' N'
    have hlw1 := written_len cs way1 hcl6
    dsimp only

    clear F3 N2
    k_steps

    unfold Stop
    rw [pair_item0]
    refine' Ct.use (written3_ct _ _ _ _ _ [p1] _ _ _ (Nat.le_add_left 1 5)) ?B ?F ?X ?N ?T ?K ?d ?u ?_
    case B => exact KA
    case F => k_asm
    case X => k_asm
    case N => k_asm
    case T => k_asm
    case K => first | exact rfl | assumption
    case d => first | decide +kernel | lia  
    case u => first | decide +kernel | lia  

    rintro v' n' h' tk' g' ⟨way2, ⟨tt2, rfl⟩, rfl, rfl⟩ F' N'
    have hlw2 := written_len [p1] way2 (Nat.le_add_left 1 5)
    dsimp only

    k_steps

    unfold Stop
    rw [pair_item1]
    refine' Ct.use (written3_ct _ _ _ _ _ [p2] _ _ _ (Nat.le_add_left 1 5)) ?B ?F ?X ?N ?T ?K ?d ?u ?_
    case B => exact KA
    case F => k_asm
    case X => k_asm
    case N => k_asm
    case T => k_asm
    case K => first | exact rfl | assumption
    case d => first | decide +kernel | lia  
    case u => first | decide +kernel | lia  

    rintro v' n' h' tk' g' ⟨way3, ⟨tt3, rfl⟩, rfl, rfl⟩ F' N'
    have hlw3 := written_len [p2] way3 (Nat.le_add_left 1 5)
    dsimp only

    k_steps
    rename Fr _ _ _ _ => F1
    rename News _ _ _ _ => N1
    obtain ⟨ttx, F2⟩ := text_frame F1
    have N2 := tab_first N1
    clear F1 N1
    repeat (rename _ ≤ (_ : Str).length ∧ (_ : Str).length ≤ _ => hx1; clear hx1)
    have hl1 : (writtenF cs way1).length ≤ 20 := by rw [← S_len]; exact hlw1
    have hl2 : (writtenF [p1] way2).length ≤ 20 := by rw [← S_len]; exact hlw2
    have hl3 : (writtenF [p2] way3).length ≤ 20 := by rw [← S_len]; exact hlw3
    clear hlw1 hlw2 hlw3
    have hlx : (writtenF cs way1 ++ writtenF [p1] way2 ++ writtenF [p2] way3).length ≤ 60 := by simp only [List.length_append]; lia  
    unfold Stop
    rw [S_three (writtenF cs way1) (writtenF [p1] way2) (writtenF [p2] way3)]
    refine' CtP.use (lexer_ct _ _ _ _ _ _ _ (by rw [S_len]; lia  ) ?hn79) ?P ?B ?F ?X ?N ?T ?K ?d ?u ?_
    case B => exact KA
    case F => k_asm
    case X => k_asm
    case N => k_asm
    case T => k_asm
    case K => first | exact rfl | assumption
    case d => first | decide +kernel | lia  
    case u => first | decide +kernel | lia  

    case P => exact codeHd
    case hn79 => exact fun p hp => Nat.ne_of_gt (allLt_gt (by lia  ) (by lia  ) hp)
    rintro v' n' h' tk' g' ⟨xL, dxL, pbL, stL, dsL, rdL, ccL, ceL, lfL, k1, k2, k3, k4, tl, twL, nL, kp, kl, yl, ods, ost, ord, occ, ocell, ps, hyl, hod, hcls, hdict, hfd, hread, hlts⟩ F' N'
    simp only [AllLt] at hlts
    clear F2 N2
    dsimp only
    k_steps
    rename IsRange _ _ _ _ _ _ _ _ => hrg
    rename Fr _ _ _ _ => F1
    rename News _ _ _ _ => N1
    revert hrg F1 N1
    repeat (rename Fr _ _ _ _ => Fz; clear Fz)
    repeat (rename News _ _ _ _ => Nz; clear Nz)
    intro hrg F1 N1
    rename (∀ b o, _ → _) => hk0
    clear hk0
    rename _ = Data.cell (some (Value.ref xL)) => dx5
    rw [signs_S] at hyl
    rename_i u1 u2 u3 u4 u5 u6 u7 u8 u9 u10 u11 u12 u13 u14 u15 u16 u17 u18 u19 u20 u21 u22 u23 u24 u25 u26 u27 u28 u29 u30 u31 u32 u33 u34 u35 u36 u37 u38 u39 u40 u41 u42 u43 u44 u45 u46 u47 u48 u49 u50
    revert w s₀ s₁ mg mb fa o pm cd doc hg ns wa wb sc vs wc h1 tk1 o5 o4 o3 o2 o1 d5 d4 d3 d2 d1 hn63 G0 XA TA KA codeHd LL l0 qk ek lS hA1 l1 u1 u2 a b c ta tb tc kS ha hb hc u3 u4 dl u5 u6 u7 u8 u9 u10 u11 u12 u13 u14 u15 u16 u17 trow dr size many tz tm hs4 hm1 ds D u18 u19 ys kD cs hcl hcr u20 u21 hroot u22 u23 u24 u25 u26 u27 u28 u29 p1 p2 hp1 hp2 hp12 tp tw0 tr wh tw hwh hcl6 u30 u31 way1 tt1 u32 u33 u34 way2 tt2 u35 u36 u37 u38 u39 way3 tt3 u40 u41 u42 u43 ttx hl1 hl2 hl3 hlx h' tk' xL dxL pbL stL dsL rdL ccL ceL lfL k1 k2 k3 k4 tl twL nL kp kl yl ods ost ord occ ocell ps hyl hod hcls hdict hfd hread hlts u44 u45 dx5 tk u46 u47 u48 u49 u50 hrg F1 N1
    exact hP.un
noncomputable def st4 : (P : Prop) ×' (Box P → st3.1) := by
  refine' ⟨_, fun hP => ?main⟩
  case main =>
    w_top on
    w_on
    intro w s₀ s₁ mg mb fa o pm cd doc hg ns wa wb sc vs wc h1 tk1 o5 o4 o3 o2 o1 d5 d4 d3 d2 d1 hn63 G0 XA TA KA codeHd LL l0 qk ek lS hA1 l1 _ _ a b c ta tb tc kS ha hb hc _ _ dl _ _ _ _ _ _ _ _ _ _ _ _ _ trow dr size many tz tm hs4 hm1 ds D _ _ ys kD cs hcl hcr _ _ hroot _ _ _ _ _ _ _ _ p1 p2 hp1 hp2 hp12 tp tw0 tr wh tw hwh hcl6 _ _ way1 tt1 _ _ _ way2 tt2 _ _ _ _ _ way3 tt3 _ _ _ _ ttx hl1 hl2 hl3 hlx h' tk' xL dxL pbL stL dsL rdL ccL ceL lfL k1 k2 k3 k4 tl twL nL kp kl yl ods ost ord occ ocell ps hyl hod hcls hdict hfd hread hlts _ _ dx5 tk _ _ _ _ _ hrg F1 N1
    k_fill

    have N2 := pb_move N1
    have hcs0 : cs ≠ [] := fun e => by rw [e] at hcl; simp at hcl; lia  
    have hrd4 := fun i hi => reads4 (i := i) hcs0 (List.cons_ne_nil p1 []) (List.cons_ne_nil p2 []) way1 way2 way3 hi
    have hone0 := nls_one (l := writtenF cs way1 ++ writtenF [p1] way2 ++ writtenF [p2] way3) (by lia  )
    refine' citer_range (n := 4) (fun _ _ => true) (fun i ys news' g => g = _ ∧ StrsAre ys ((List.range i).map fun j => S (tokAt cs [p1] [p2] j)) ∧ LXS w k1 k2 k3 k4 twL xL dxL pbL stL dsL rdL ccL ceL lfL ods ost ord occ ocell (1 + nls ((leftAt (writtenF cs way1) (writtenF [p1] way2) (writtenF [p2] way3) 0).map sg)) _ ((leftAt (writtenF cs way1) (writtenF [p1] way2) (writtenF [p2] way3) i).map sg) news') rfl hrg (by decide +kernel) (by decide +kernel) F1 N2 ?hlt ⟨rfl, .nil, hone0, tl, 1, nL, kl, yl, hyl, rfl, rfl⟩ ?skip ?tests ?elt ?done
    case hlt => lia  
    case skip => intro i t ys news₁ g _ q; exact absurd q (by decide)
    case tests => intro C D I i tv ys news₁ h tk g own mC _ _ _ _ _ _ _ F N _ _ E'; exact wpAny_pure ⟨rfl, _, _, rfl, F, N⟩
    case elt =>
      rintro C D I i tv ys9 news₁ h tk g own mC hC hD hI hi _ ⟨rfl, hys, hL⟩ hoff hown F N hn hmC E'
      have cE := InElt.start h
      have hL0 := hL
      have hLI := lx_of hL
      clear hL
      obtain ⟨hone1, hone2, tl9, ln9, n9, kl9, yl9, hy9, hK9⟩ := hLI
      simp only [List.cons_append] at N
      dsimp only
      k_steps
      unfold Stop
      dsimp only [List.append_nil]
      refine' Ct.use (getr_ct w _ mg mb _ xL dxL pbL stL dsL rdL ccL ceL lfL k1 k2 k3 k4 twL _ kp ods ost ord occ ocell _ _ _ _ hod hcls hdict hfd hread ?hlf (neN (by lia  )) ?hdx (hrd4 i hi) (hL0.app (own := own))) ?B ?F ?X ?N ?T ?K ?d ?u ?_
      case B => exact KA
      case F => k_asm
      case X => k_asm
      case N => k_asm
      case T => k_asm
      case K => first | exact rfl | assumption
      case d => first | decide +kernel | lia  
      case u => first | decide +kernel | lia  

      case hlf => exact ne_own (apart_lf l0 hlts) (.tail _ (.tail _ (.head _))) hoff hown
      case hdx => exact ne_own (apart_dx l0 hlts) (.tail _ (.head _)) hoff hown
      rintro v' n' h' tk' g' ⟨rfl, ⟨t9, rfl⟩, hL'⟩ F' N'
      obtain ⟨led', hL2, rfl⟩ := LXS.cut2 hL'
      dsimp only
      exact ⟨_, _, _, led', rfl, F', N', off_same hoff (hL2.fst.trans hL0.fst.symm), rfl, strs_more hys t9, hL2⟩
    case done =>
      rintro D h' tk g news' ys9 kD hD F N hoff ⟨rfl, hys, hLd⟩
      obtain ⟨hone1, hone2, tl9, ln9, n9, kl9, yl9, hy9, hK9⟩ := lx_of hLd
      clear hLd
      clear F1 N1 N2 hrg
      dsimp only
      k_steps

      repeat (rename _ ≤ (_ : Str).length ∧ (_ : Str).length ≤ _ => hx1; clear hx1)
      rename Fr _ _ _ _ => F1
      rename News _ _ _ _ => N1
      rw [four_eq] at hys
      refine ne_strs N1 (.tail _ (.head _)) (.head _) hys (.cons _ _ (.cons _ _ (.cons _ _ (.cons _ _ .nil)))) ?ox ?oy ?hu ?_
      case ox => rw [pair_item0, pair_item1, S_nil]; exact four_ok hcr hp1 hp2
      case oy => rw [pair_item0, pair_item1, S_nil]; exact four_ok hcr hp1 hp2
      case hu => exact Nat.le_of_ble_eq_true rfl
      rw [decide_eq_true rfl]
      dsimp only [Bool.not_true]
      rename _ = Data.cell (some (Value.ref xL)) => dx5
      clear F N hoff hys hone1 hone2 hone0 hD hrd4
      rename_i u1 u2 u3 u4 u5 u6 u7 u8 u9 u10 u11 u12 u13 u14 u15 u16 u17 u18 u19 u20 u21 u22 u23 u24 u25 u26 u27 u28 u29 u30 u31 u32 u33 u34 u35 u36 u37 u38 u39 u40 u41 u42 u43 u44 u45 u46 u47 u48 u49 u50 u51 u52 u53 u54 u55 u56 u57
      revert w s₀ s₁ mg mb fa o pm cd doc hg ns wa wb sc vs wc h1 tk1 o5 o4 o3 o2 o1 d5 d4 d3 d2 d1 hn63 G0 XA TA KA codeHd LL l0 qk ek lS hA1 l1 u1 u2 a b c ta tb tc kS ha hb hc u3 u4 dl u5 u6 u7 u8 u9 u10 u11 u12 u13 u14 u15 u16 u17 trow dr size many tz tm hs4 hm1 ds u18 u19 u20 ys u21 cs hcl hcr u22 u23 hroot u24 u25 u26 u27 u28 u29 u30 u31 p1 p2 hp1 hp2 hp12 tp tw0 tr wh tw hwh hcl6 u32 u33 way1 tt1 u34 u35 u36 way2 tt2 u37 u38 u39 u40 u41 way3 tt3 u42 u43 u44 u45 ttx hl1 hl2 hl3 hlx u46 tk' xL dxL pbL stL dsL rdL ccL ceL lfL k1 k2 k3 k4 tl twL nL kp kl yl ods ost ord occ ocell ps hyl hod hcls hdict hfd hread hlts u47 u48 dx5 u49 u50 u51 u52 u53 u54 hcs0 D h' tk ys9 kD tl9 ln9 n9 kl9 yl9 hy9 hK9 u55 u56 F1 N1 u57
      exact hP.un
noncomputable def st5 : (P : Prop) ×' (Box P → st4.1) := by
  refine' ⟨_, fun hP => ?main⟩
  case main =>
    w_top on
    w_on
    intro w s₀ s₁ mg mb fa o pm cd doc hg ns wa wb sc vs wc h1 tk1 o5 o4 o3 o2 o1 d5 d4 d3 d2 d1 hn63 G0 XA TA KA codeHd LL l0 qk ek lS hA1 l1 _ _ a b c ta tb tc kS ha hb hc _ _ dl _ _ _ _ _ _ _ _ _ _ _ _ _ trow dr size many tz tm hs4 hm1 ds _ _ _ ys _ cs hcl hcr _ _ hroot _ _ _ _ _ _ _ _ p1 p2 hp1 hp2 hp12 tp tw0 tr wh tw hwh hcl6 _ _ way1 tt1 _ _ _ way2 tt2 _ _ _ _ _ way3 tt3 _ _ _ _ ttx hl1 hl2 hl3 hlx _ tk' xL dxL pbL stL dsL rdL ccL ceL lfL k1 k2 k3 k4 tl twL nL kp kl yl ods ost ord occ ocell ps hyl hod hcls hdict hfd hread hlts _ _ dx5 _ _ _ _ _ _ hcs0 D h' tk ys9 kD tl9 ln9 n9 kl9 yl9 hy9 hK9 _ _ F1 N1 _
    k_fill

    have hln : ln9 = 1 + Txt.count (S (writtenF cs way1 ++ writtenF [p1] way2 ++ writtenF [p2] way3)) (Str.ofString "\n") := by
      rw [count_nls]
      have e : nls ((leftAt (writtenF cs way1) (writtenF [p1] way2) (writtenF [p2] way3) 4).map sg) = 0 := rfl
      rw [e, Int.add_zero] at hK9
      exact hK9
    have hcs1 : 1 ≤ cs.length := by lia  
    have hcs6 : cs.length ≤ 6 := by lia  
    obtain ⟨hml, hml2⟩ := mul_len hcs1 hcs6 hs4
    k_steps
    · exact absurd hln (by assumption)
    obtain ⟨wd, hwe, hwl, hwr⟩ := word_said hcs1 hcs6 hs4 hcr
    rw [hwe]
    rename Fr _ _ _ _ => F1
    rename News _ _ _ _ => N1
    revert F1 N1
    repeat (rename Fr _ _ _ _ => Fz; clear Fz)
    repeat (rename News _ _ _ _ => Nz; clear Nz)
    intro F1 N1
    have N2 := drop2 N1
    clear N1 hwe hml hml2 hK9 hy9 hyl hlx hl1 hl2 hl3 hroot
    repeat (rename (_ : Int) = 1 + Txt.count _ _ => hz; clear hz)
    repeat (rename (_ : Str).length ≤ (_ : Str).length => hz; clear hz)
    rename_i u1 u2 u3 u4 u5 u6 u7 u8 u9 u10 u11 u12 u13 u14 u15 u16 u17 u18 u19 u20 u21 u22 u23 u24 u25 u26 u27 u28 u29 u30 u31 u32 u33 u34 u35 u36 u37 u38 u39 u40 u41 u42 u43 u44 u45 u46 u47 u48 u49 u50 u51 u52 u53 u54 u55 u56 u57 u58 u59 u60 u61 u62 u63 u64
    revert w s₀ s₁ mg mb fa o pm cd doc hg ns wa wb sc vs wc h1 tk1 o5 o4 o3 o2 o1 d5 d4 d3 d2 d1 hn63 G0 XA TA KA codeHd LL l0 qk ek lS hA1 l1 u1 u2 a b c ta tb tc kS ha hb hc u3 u4 dl u5 u6 u7 u8 u9 u10 u11 u12 u13 u14 u15 u16 u17 trow dr size many tz tm hs4 hm1 ds u18 u19 u20 ys u21 cs hcl hcr u22 u23 u24 u25 u26 u27 u28 u29 u30 u31 p1 p2 hp1 hp2 hp12 tp tw0 tr wh tw hwh hcl6 u32 u33 way1 tt1 u34 u35 u36 way2 tt2 u37 u38 u39 u40 u41 way3 tt3 u42 u43 u44 u45 ttx u46 tk' xL dxL pbL stL dsL rdL ccL ceL lfL k1 k2 k3 k4 tl twL nL kp kl yl ods ost ord occ ocell ps hod hcls hdict hfd hread hlts u47 u48 dx5 u49 u50 u51 u52 u53 u54 hcs0 D h' u55 ys9 kD tl9 ln9 n9 kl9 yl9 u56 u57 u58 hcs1 hcs6 u59 tk u60 u61 u62 u63 u64 wd hwl hwr F1 N2
    exact hP.un
noncomputable def st6 : (P : Prop) ×' (Box P → st5.1) := by
  refine' ⟨_, fun hP => ?main⟩
  case main =>
    w_top on
    w_on
    intro w s₀ s₁ mg mb fa o pm cd doc hg ns wa wb sc vs wc h1 tk1 o5 o4 o3 o2 o1 d5 d4 d3 d2 d1 hn63 G0 XA TA KA codeHd LL l0 qk ek lS hA1 l1 _ _ a b c ta tb tc kS ha hb hc _ _ dl _ _ _ _ _ _ _ _ _ _ _ _ _ trow dr size many tz tm hs4 hm1 ds _ _ _ ys _ cs hcl hcr _ _ _ _ _ _ _ _ _ _ p1 p2 hp1 hp2 hp12 tp tw0 tr wh tw hwh hcl6 _ _ way1 tt1 _ _ _ way2 tt2 _ _ _ _ _ way3 tt3 _ _ _ _ ttx _ tk' xL dxL pbL stL dsL rdL ccL ceL lfL k1 k2 k3 k4 tl twL nL kp kl yl ods ost ord occ ocell ps hod hcls hdict hfd hread hlts _ _ dx5 _ _ _ _ _ _ hcs0 D h' _ ys9 kD tl9 ln9 n9 kl9 yl9 _ _ _ hcs1 hcs6 _ tk _ _ _ _ _ wd hwl hwr F1 N2
    k_fill

    clear ha hb hc
    refine' storeX_C ?F ?N ?c ?U ?d ?_ ?a ?b
    case a => rfl
    case b => rfl
    case F => k_asm
    case N => k_asm
    case c => rfl
    case U => k_updF
    case d => k_asm
    intro h' o' F' N' d'
    (try dsimp only at N')
    clear F1 N2
    dsimp only
    refine wpAny_execs_cons ?_
    with_unfolding_all refine' AssignComp_G F' ?c0 ?c1 ?c2 ?c3 ?c4 ?c5 ?c6 ?c7 ?_ ?c8
    case c0 => with_unfolding_all rfl
    case c1 => with_unfolding_all rfl
    case c2 => decide
    case c3 => exact rfl
    case c4 => decide
    case c5 => with_unfolding_all rfl
    case c6 => exact rfl
    case c7 => exact rfl
    case c8 => (intro _; with_unfolding_all rfl)
    dsimp only
    k_steps
    rename IsRange _ _ _ _ _ _ _ _ => hrg
    rename Fr _ _ _ _ => F1
    rename News _ _ _ _ => N1
    revert hrg F1 N1
    repeat (rename Fr _ _ _ _ => Fz; clear Fz)
    repeat (rename News _ _ _ _ => Nz; clear Nz)
    intro hrg F1 N1
    rename (∀ b o, _ → _) => hk0
    clear hk0
    rename _ = Data.cell (some (Value.str (S wd) _)) => dwd
    rename_i u1 u2 u3 u4 u5 u6 u7 u8 u9 u10 u11 u12 u13 u14 u15 u16 u17 u18 u19 u20 u21 u22 u23 u24 u25 u26 u27 u28 u29 u30 u31 u32 u33 u34 u35 u36 u37 u38 u39 u40 u41 u42 u43 u44 u45 u46 u47 u48 u49 u50 u51 u52 u53 u54 u55 u56 u57 u58 u59 u60 u61 u62 u63 u64 u65 u66 u67 u68 u69 u70
    revert w s₀ s₁ mg mb fa o pm cd doc hg ns wa wb sc vs wc h1 tk1 o5 o4 o3 o2 o1 d5 d4 d3 d2 d1 hn63 G0 XA TA KA codeHd LL l0 qk ek lS hA1 l1 u1 u2 a b c ta tb tc kS u3 u4 dl u5 u6 u7 u8 u9 u10 u11 u12 u13 u14 u15 u16 u17 trow dr size many tz tm hs4 hm1 ds u18 u19 u20 ys u21 cs hcl hcr u22 u23 u24 u25 u26 u27 u28 u29 u30 u31 p1 p2 hp1 hp2 hp12 tp tw0 tr wh tw hwh hcl6 u32 u33 way1 tt1 u34 u35 u36 way2 tt2 u37 u38 u39 u40 u41 way3 tt3 u42 u43 u44 u45 ttx u46 tk' xL dxL pbL stL dsL rdL ccL ceL lfL k1 k2 k3 k4 tl twL nL kp kl yl ods ost ord occ ocell ps hod hcls hdict hfd hread hlts u47 u48 dx5 u49 u50 u51 u52 u53 u54 hcs0 D u55 u56 ys9 kD tl9 ln9 n9 kl9 yl9 u57 u58 u59 hcs1 hcs6 u60 tk u61 u62 u63 u64 u65 wd hwl hwr h' o' dwd u66 u67 u68 u69 u70 hrg F1 N1
    exact hP.un
noncomputable def st7 : (P : Prop) ×' (Box P → st6.1) := by
  refine' ⟨_, fun hP => ?main⟩
  case main =>
    w_top on
    w_on
    intro w s₀ s₁ mg mb fa o pm cd doc hg ns wa wb sc vs wc h1 tk1 o5 o4 o3 o2 o1 d5 d4 d3 d2 d1 hn63 G0 XA TA KA codeHd LL l0 qk ek lS hA1 l1 _ _ a b c ta tb tc kS _ _ dl _ _ _ _ _ _ _ _ _ _ _ _ _ trow dr size many tz tm hs4 hm1 ds _ _ _ ys _ cs hcl hcr _ _ _ _ _ _ _ _ _ _ p1 p2 hp1 hp2 hp12 tp tw0 tr wh tw hwh hcl6 _ _ way1 tt1 _ _ _ way2 tt2 _ _ _ _ _ way3 tt3 _ _ _ _ ttx _ tk' xL dxL pbL stL dsL rdL ccL ceL lfL k1 k2 k3 k4 tl twL nL kp kl yl ods ost ord occ ocell ps hod hcls hdict hfd hread hlts _ _ dx5 _ _ _ _ _ _ hcs0 D _ _ ys9 kD tl9 ln9 n9 kl9 yl9 _ _ _ hcs1 hcs6 _ tk _ _ _ _ _ wd hwl hwr h' o' dwd _ _ _ _ _ hrg F1 N1
    k_fill

    have hwz : (S wd).length = size.toNat := by rw [S_len]; exact hwl
    refine' citer_range (n := (size - 1).toNat) (fun i _ => dueG wd (i + 1)) (fun i ys news' g => g = _ ∧ news' = _ ∧ IntsAre ys ((((List.range i).map (· + 1)).filter (dueG wd)).map Int.ofNat)) rfl hrg (range_size (by lia  )) (range_small (by lia  ) (by lia  ) (by lia  ) (by lia  )) F1 N1 ?hlt ⟨rfl, rfl, .nil⟩ ?skip ?tests ?elt ?done
    case hlt => lia  
    case skip =>
      rintro i t ys news₁ g hi hp ⟨rfl, rfl, hJ⟩
      exact ⟨rfl, rfl, by rw [due_no hp]; exact hJ⟩
    case tests =>
      rintro C D I i tv ys news₁ h tk g own mC hC hD hI hi ⟨rfl, rfl, hJ⟩ hoff hown F N hn hmC E'
      have cE := InElt.start h
      refine wpAny_tests_one ?_
      clear F1 N1
      dsimp only
      k_steps
      all_goals first | k_asm | (dsimp only; k_asm) | exact due_slices hwl hs4.1 hi
    case elt =>
      rintro C D I i tv ys news₁ h tk g own mC hC hD hI hi hp ⟨rfl, rfl, hJ⟩ hoff hown F N hn hmC E'
      have cE := InElt.start h
      clear F1 N1
      dsimp only
      k_steps
      refine ⟨_, _, _, _, rfl, by k_asm, by k_asm, hoff, rfl, rfl, ?_⟩
      rw [due_yes hp]
      exact due_snoc hJ _
    case done =>
      rintro D h' tk g news' ysS kD hD F N hoff ⟨rfl, rfl, hJ⟩
      have hpD : LT.lt (α := Nat) pbL D := Nat.lt_trans (Heap.lt_size (N1 (pbL, _) (.tail _ (.tail _ (.tail _ (.tail _ (.tail _ (.tail _ (.tail _ (.tail _ (.head _)))))))))).1) hD
      clear F1 N1 hrg
      dsimp only
      k_steps
      have hJ2 := steps_said hwl hs4.1 hJ
      clear hJ hD hoff
      rename_i u1 u2 u3 u4 u5 u6 u7 u8 u9 u10 u11 u12 u13 u14 u15 u16 u17 u18 u19 u20 u21 u22 u23 u24 u25 u26 u27 u28 u29 u30 u31 u32 u33 u34 u35 u36 u37 u38 u39 u40 u41 u42 u43 u44 u45 u46 u47 u48 u49 u50 u51 u52 u53 u54 u55 u56 u57 u58 u59 u60 u61 u62 u63 u64 u65 u66 u67 u68 u69 u70 u71 u72 u73 u74
      revert w s₀ s₁ mg mb fa o pm cd doc hg ns wa wb sc vs wc h1 tk1 o5 o4 o3 o2 o1 d5 d4 d3 d2 d1 hn63 G0 XA TA KA codeHd LL l0 qk ek lS hA1 l1 u1 u2 a b c ta tb tc kS u3 u4 dl u5 u6 u7 u8 u9 u10 u11 u12 u13 u14 u15 u16 u17 trow dr size many tz tm hs4 hm1 ds u18 u19 u20 ys u21 cs hcl hcr u22 u23 u24 u25 u26 u27 u28 u29 u30 u31 p1 p2 hp1 hp2 hp12 tp tw0 tr wh tw hwh hcl6 u32 u33 way1 tt1 u34 u35 u36 way2 tt2 u37 u38 u39 u40 u41 way3 tt3 u42 u43 u44 u45 ttx u46 tk' xL dxL pbL stL dsL rdL ccL ceL lfL k1 k2 k3 k4 tl twL nL kp kl yl ods ost ord occ ocell ps hod hcls hdict hfd hread hlts u47 u48 dx5 u49 u50 u51 u52 u53 u54 hcs0 u55 u56 u57 ys9 u58 tl9 ln9 n9 kl9 yl9 u59 u60 u61 hcs1 hcs6 u62 u63 u64 u65 u66 u67 u68 wd hwl hwr u69 o' dwd u70 u71 u72 u73 u74 hwz D h' tk ysS kD F N hpD hJ2
      exact hP.un
noncomputable def st8 : (P : Prop) ×' (Box P → st7.1) := by
  refine' ⟨_, fun hP => ?main⟩
  case main =>
    w_top on
    w_on
    intro w s₀ s₁ mg mb fa o pm cd doc hg ns wa wb sc vs wc h1 tk1 o5 o4 o3 o2 o1 d5 d4 d3 d2 d1 hn63 G0 XA TA KA codeHd LL l0 qk ek lS hA1 l1 _ _ a b c ta tb tc kS _ _ dl _ _ _ _ _ _ _ _ _ _ _ _ _ trow dr size many tz tm hs4 hm1 ds _ _ _ ys _ cs hcl hcr _ _ _ _ _ _ _ _ _ _ p1 p2 hp1 hp2 hp12 tp tw0 tr wh tw hwh hcl6 _ _ way1 tt1 _ _ _ way2 tt2 _ _ _ _ _ way3 tt3 _ _ _ _ ttx _ tk' xL dxL pbL stL dsL rdL ccL ceL lfL k1 k2 k3 k4 tl twL nL kp kl yl ods ost ord occ ocell ps hod hcls hdict hfd hread hlts _ _ dx5 _ _ _ _ _ _ hcs0 _ _ _ ys9 _ tl9 ln9 n9 kl9 yl9 _ _ _ hcs1 hcs6 _ _ _ _ _ _ _ wd hwl hwr _ o' dwd _ _ _ _ _ hwz D h' tk ysS kD F N hpD hJ2
    k_fill

    unfold Stop
    rename News _ _ _ _ => N1
    refine' Ct.use (told_ct _ _ _ _ _ (S wd) _ D ysS _ _ hJ2 (by rw [ls_S]; exact nodot_row hwr) (by lia  ) (by lia  ) (by rw [ls_S]; exact told_true hwl hs4)) ?B ?F ?X ?N ?T ?K ?d ?u ?_
    case B => exact KA
    case F => k_asm
    case X => k_asm
    case N => k_asm
    case T => k_asm
    case K => first | exact rfl | assumption
    case d => first | decide +kernel | lia  
    case u => first | decide +kernel | lia  

    rintro v' n' h' tk' g' ⟨rfl, rfl, hbare⟩ F' N'
    clear N1
    dsimp only
    k_steps
    unfold Stop
    rename News _ _ _ _ => N1
    have N2 := line_order N1
    clear N1
    refine' Ct.use (line_ct _ _ _ _ _ xL dxL pbL stL k1 k2 k3 k4 _ twL _ _ _ (S [p1, p2]) _ _ size (by rw [S_len]; rfl) hs4.1 hs4.2 (neN (by lia  )) (neN (by lia  )) (neN (by lia  )) ?hpb) ?B ?F ?X ?N ?T ?K ?d ?u ?_
    case B => exact KA
    case F => k_asm
    case X => k_asm
    case N => k_asm
    case T => k_asm
    case K => first | exact rfl | assumption
    case d => first | decide +kernel | lia  
    case u => first | decide +kernel | lia  

    case hpb => exact pb_ne l0 hpD hlts
    rintro v' n' h' tk' g' ⟨rfl, D2, ws, kd, kp2, rfl, hws, rfl⟩ F' N'
    clear N2
    dsimp only
    k_steps
    rename_i u1 u2 u3 u4 u5 u6 u7 u8 u9 u10 u11 u12 u13 u14 u15 u16 u17 u18 u19 u20 u21 u22 u23 u24 u25 u26 u27 u28 u29 u30 u31 u32 u33 u34 u35 u36 u37 u38 u39 u40 u41 u42 u43 u44 u45 u46 u47 u48 u49 u50 u51 u52 u53 u54 u55 u56 u57 u58 u59 u60 u61 u62 u63 u64 u65 u66 u67 u68 u69 u70 u71 u72 u73 u74 u75 u76 u77 u78 u79 u80 u81 u82
    revert w s₀ s₁ mg mb fa o pm cd doc hg ns wa wb sc vs wc h1 tk1 o5 o4 o3 o2 o1 d5 d4 d3 d2 d1 hn63 G0 XA TA KA codeHd LL l0 qk ek lS hA1 l1 u1 u2 a b c ta tb tc kS u3 u4 dl u5 u6 u7 u8 u9 u10 u11 u12 u13 u14 u15 u16 u17 trow dr size many tz tm hs4 hm1 ds u18 u19 u20 ys u21 cs hcl hcr u22 u23 u24 u25 u26 u27 u28 u29 u30 u31 p1 p2 hp1 hp2 hp12 tp tw0 tr wh tw hwh hcl6 u32 u33 way1 tt1 u34 u35 u36 way2 tt2 u37 u38 u39 u40 u41 way3 tt3 u42 u43 u44 u45 ttx u46 u47 xL dxL pbL stL dsL rdL ccL ceL lfL k1 k2 k3 k4 tl twL nL kp kl yl ods ost ord occ ocell ps hod hcls hdict hfd hread hlts u48 u49 dx5 u50 u51 u52 u53 u54 u55 hcs0 u56 u57 u58 ys9 u59 tl9 ln9 n9 kl9 yl9 u60 u61 u62 hcs1 hcs6 u63 u64 u65 u66 u67 u68 u69 wd hwl hwr u70 o' dwd u71 u72 u73 u74 u75 hwz D u76 u77 ysS kD F hpD hJ2 u78 u79 h' tk' g' hbare D2 ws kd kp2 hws u80 u81 u82 tk
    exact hP.un
theorem st9 : st8.1 := by
  w_top on
  w_on
  intro w s₀ s₁ mg mb fa o pm cd doc hg ns wa wb sc vs wc h1 tk1 o5 o4 o3 o2 o1 d5 d4 d3 d2 d1 hn63 G0 XA TA KA codeHd LL l0 qk ek lS hA1 l1 _ _ a b c ta tb tc kS _ _ dl _ _ _ _ _ _ _ _ _ _ _ _ _ trow dr size many tz tm hs4 hm1 ds _ _ _ ys _ cs hcl hcr _ _ _ _ _ _ _ _ _ _ p1 p2 hp1 hp2 hp12 tp tw0 tr wh tw hwh hcl6 _ _ way1 tt1 _ _ _ way2 tt2 _ _ _ _ _ way3 tt3 _ _ _ _ ttx _ _ xL dxL pbL stL dsL rdL ccL ceL lfL k1 k2 k3 k4 tl twL nL kp kl yl ods ost ord occ ocell ps hod hcls hdict hfd hread hlts _ _ dx5 _ _ _ _ _ _ hcs0 _ _ _ ys9 _ tl9 ln9 n9 kl9 yl9 _ _ _ hcs1 hcs6 _ _ _ _ _ _ _ wd hwl hwr _ o' dwd _ _ _ _ _ hwz D _ _ ysS kD F hpD hJ2 _ _ h' tk' g' hbare D2 ws kd kp2 hws _ _ _ tk
  k_fill

  unfold Stop
  rename News _ _ _ _ => N1
  rw [ls_S] at hws
  refine' Ct.use (choices_ct _ _ _ _ _ (S [p1, p2]) _ _ size (by rw [S_len]; rfl) hs4.1 hs4.2) ?B ?F ?X ?N ?T ?K ?d ?u ?_
  case B => exact KA
  case F => k_asm
  case X => k_asm
  case N => k_asm
  case T => k_asm
  case K => first | exact rfl | assumption
  case d => first | decide +kernel | lia  
  case u => first | decide +kernel | lia  

  rintro v' n' h' tk' g' ⟨D3, ws3, kd3, rfl, rfl, hws3, rfl⟩ F' N'
  rw [ls_S] at hws3
  clear N1
  dsimp only
  refine eq_strs N' (.tail _ (.head _)) (.head _) hws hws3 (choice_strOk hp1 hp2) (choice_strOk hp1 hp2) (Nat.le_of_ble_eq_true rfl) ?_
  rw [decide_eq_true rfl]
  k_steps
  unfold Stop
  rename News _ _ _ _ => N1
  rename BareKeep _ _ => hbk
  have N2 := found_order N1
  clear N1
  rw [ls_S] at hJ2
  refine' Ct.useB (found_ct _ _ _ _ _ D2 D ws _ _ hws ysS _ _ hJ2 (choice_ok hp1 hp2 (by lia  )) (steps_len wd (by lia  ))) ?B ?F ?X ?N ?T ?K ?d ?u ?_
  case B => exact KA
  case F => k_asm
  case X => k_asm
  case N => k_asm
  case T => k_asm
  case K => first | exact rfl | assumption
  case d => first | decide +kernel | lia  
  case u => first | decide +kernel | lia  

  intro h' tk' F' N'
  rw [found_true hp12 hwl hs4]
  exact ⟨rfl, F'.keep, rfl, hbk (by rw [hg]; exact AllBare.empty), GrownAt.of N' (.tail _ (.tail _ (.head _))), trivial⟩
theorem law_1 : PySem.Challenge.rw_re0036_01.Holds := st0.2 ⟨st1.2 ⟨st2.2 ⟨st3.2 ⟨st4.2 ⟨st5.2 ⟨st6.2 ⟨st7.2 ⟨st8.2 ⟨st9⟩⟩⟩⟩⟩⟩⟩⟩⟩
end
end
end
end Mine
end
theorem PySem.Challenge.cw_re0036_01_holds : PySem.Challenge.rw_re0036_01.Holds := by
  exact Mine.law_1
